import JvmDerived
import JvmDerived.Pilot.@@N@@Statement
import JvmDerived.Pilot.@@N@@Code
set_option linter.unusedVariables false
set_option linter.unusedSimpArgs false
namespace Jvm.Pilot.@@N@@
open Jvm Jvm.ClassFile Sem Op Lib Jvm.Free Jvm.Stand Jvm.LawKit Jvm.RoadKit Bundle Jvm.Pilot.@@N@@.Jvm.D
/-! own kit: a walk that goes forward: Go says what is still owed from the state S -/
section OwnGo
variable {p : Program} {l : Launch} {e : Env} {R : Room} {s : State} {m : MethodId} {args : Array Value} {below : List Frame} {meth : Method} {c : Code} {T : State} {locs : List Loc} {cells slots : Nat} {Z : State} {a0 : Array Value} {h : Heap} {G : Outcome → State → Prop} {S S' : State}
def Go (p : Program) (e : Env) (below : List Frame) (G : Outcome → State → Prop) (S : State) : Prop :=
  ∃ s₂ o, Steps p.tables e below S s₂ ∧ s₂.status = .running ∧ Ended s₂ below o ∧ G o s₂
theorem Go.st (h : ∀ t, Steps p.tables e below S' t → Steps p.tables e below S t) (k : Go p e below G S') : Go p e below G S := by
  obtain ⟨s₂, o, h1, h2⟩ := k
  exact ⟨s₂, o, h _ h1, h2⟩
theorem Go.tr (h : Steps p.tables e below S S') (k : Go p e below G S') : Go p e below G S := by
  obtain ⟨s₂, o, h1, h2⟩ := k
  exact ⟨s₂, o, h.trans h1, h2⟩
theorem Go.cast {g g' : JFrame} (q : g = g') (k : Go p e below G (T.setTop g')) : Go p e below G (T.setTop g) := q ▸ k
/-- what a body leaves: Q of the value, the heap and the places written -/
def Left (s : State) (K N : Nat) (Q : Option Value → Heap → List Loc → Prop) : Outcome → State → Prop :=
  fun o t => ∃ v L, o = .returned v ∧ Q v t.heap L ∧ FrameEnd s o t L K N
/-- a body's contract -/
def Pays (l : Launch) (y : MethodName) (bytes : ByteArray) (maxL : Nat) (ret : Option FieldType) (rm : Room) (Z : State) (as' : Array Value) (h0 : Heap) (Q : Option Value → Heap → List Loc → Prop) : Prop :=
  ∀ ws, MetFree l y (head1 (Cond.code y bytes maxL ret :: ws) rm) (fun a U => a = as' ∧ Z.Warmed39 U.vm ∧ U.heap = h0) (fun _ _ _ _ _ => True) (fun _ U o U' => ∃ v L, o = .returned v ∧ Q v U'.heap L ∧ FrameEnd U o U' L rm.cells rm.slots)
theorem Pays.of {y : MethodName} {bytes : ByteArray} {maxL : Nat} {ret : Option FieldType} {rm : Room} {as' : Array Value} {h0 : Heap} {Q : Option Value → Heap → List Loc → Prop} (hx : plainFor y = true)
    (body : ∀ (p : Program) (e : Env) (s : State) (m : MethodId) (below : List Frame) (meth : Method) (c : Code) (T : State), p.tables.exec = Jvm.exec → c.code = bytes → c.maxLocals = maxL → meth.sig.returnType = ret → meth.locks = false → Z.Warmed39 s.vm → s.vm.findClass y.cls = some m.cls → meth.name = y.name →
      T.heap = h0 → Stand p l e rm s m as' below meth c T [] 0 0 → Go p e below (Left s rm.cells rm.slots Q) (T.setTop (entryFrame m as' maxL))) : Pays l y bytes maxL ret rm Z as' h0 Q := by
  intro ws
  refine MetFree.of_bodySF hx hisR ?_
  intro p e s m args below meth c s₁ Bd hml0 hP hK
  obtain ⟨rfl, hZ, hh⟩ := hP
  exact body p e s m below meth c s₁ Bd.exec Bd.bytes hml0 Bd.returns Bd.notSynchronized hZ (findClass_of_methodNamed Bd.named) (name_of_methodNamed Bd.named Bd.method).1 (by rw [← hh, Bd.state]; rfl) (Stand.of_body Bd)
theorem Go.out (X : Stand p l e R s m args below meth c T locs cells slots) {v : Option Value} {K N : Nat} {Q : Option Value → Heap → List Loc → Prop} (hlocks : meth.locks = false) (hv : meth.sig.returnType = none → v = none) (hK : cells ≤ K) (hN : slots ≤ N) (hQ : Q v T.heap locs)
    (st : ∀ fs, (∀ (f : JFrame) (acts : List Action), f.method = m → f.locked = none → f.entered = [] → (doReturn e (T.setTop f) acts v).1 = T.setFrames fs) → Steps p.tables e below S (T.setFrames fs)) : Go p e below (Left s K N Q) S := by
  obtain ⟨fs, hr, hrun, hended, hW, hsame⟩ := X.leave hv hlocks
  exact ⟨_, _, st fs hr, hrun, hended, v, locs, rfl, hQ, ⟨_, rfl⟩, hW, hsame.mono hK hN⟩
theorem ret_b (X : Stand p l e R s m args below meth c T locs cells slots) (hx : p.tables.exec = Jvm.exec) (hlocks : meth.locks = false) (hret : meth.sig.returnType = some .boolean) {pc : Nat} {Ls : Array Slot} {z : Int32} {rest : List Value} {K N : Nat} {Q : Option Value → Heap → List Loc → Prop} (hd : decode c.code pc = .ok (.ireturn, 1)) (hK : cells ≤ K) (hN : slots ≤ N)
    (hQ : Q (some (.int (z &&& 1))) T.heap locs) : Go p e below (Left s K N Q) (T.setTop (mkF m pc Ls (.int z :: rest))) :=
  Go.out X (v := some (.int (z &&& 1))) hlocks (fun h => by rw [hret] at h; cases h) hK hN hQ fun fs hr => retN X hx (t := .boolean) hret (by simp) hd hr
theorem ret_c (X : Stand p l e R s m args below meth c T locs cells slots) (hx : p.tables.exec = Jvm.exec) (hlocks : meth.locks = false) (hret : meth.sig.returnType = some .char) {pc : Nat} {Ls : Array Slot} {z : Int32} {rest : List Value} {K N : Nat} {Q : Option Value → Heap → List Loc → Prop} (hd : decode c.code pc = .ok (.ireturn, 1)) (hK : cells ≤ K) (hN : slots ≤ N)
    (hQ : Q (some (.int (nar .char z))) T.heap locs) : Go p e below (Left s K N Q) (T.setTop (mkF m pc Ls (.int z :: rest))) :=
  Go.out X (v := some (.int (nar .char z))) hlocks (fun h => by rw [hret] at h; cases h) hK hN hQ fun fs hr => retN X hx (t := .char) hret (by simp) hd hr
theorem ret_y (X : Stand p l e R s m args below meth c T locs cells slots) (hx : p.tables.exec = Jvm.exec) (hlocks : meth.locks = false) (hret : meth.sig.returnType = some .byte) {pc : Nat} {Ls : Array Slot} {z : Int32} {rest : List Value} {K N : Nat} {Q : Option Value → Heap → List Loc → Prop} (hd : decode c.code pc = .ok (.ireturn, 1)) (hK : cells ≤ K) (hN : slots ≤ N)
    (hQ : Q (some (.int (nar .byte z))) T.heap locs) : Go p e below (Left s K N Q) (T.setTop (mkF m pc Ls (.int z :: rest))) :=
  Go.out X (v := some (.int (nar .byte z))) hlocks (fun h => by rw [hret] at h; cases h) hK hN hQ fun fs hr => retN X hx (t := .byte) hret (by simp) hd hr
theorem ret_i (X : Stand p l e R s m args below meth c T locs cells slots) (hx : p.tables.exec = Jvm.exec) (hlocks : meth.locks = false) (hret : meth.sig.returnType = some .int) {pc : Nat} {Ls : Array Slot} {z : Int32} {rest : List Value} {K N : Nat} {Q : Option Value → Heap → List Loc → Prop} (hd : decode c.code pc = .ok (.ireturn, 1)) (hK : cells ≤ K) (hN : slots ≤ N)
    (hQ : Q (some (.int z)) T.heap locs) : Go p e below (Left s K N Q) (T.setTop (mkF m pc Ls (.int z :: rest))) :=
  Go.out X (v := some (.int z)) hlocks (fun h => by rw [hret] at h; cases h) hK hN hQ fun fs hr => retOut X hx hret rfl (Or.inl ⟨rfl, Or.inl rfl, z, rfl⟩) hd hr
theorem ret_l (X : Stand p l e R s m args below meth c T locs cells slots) (hx : p.tables.exec = Jvm.exec) (hlocks : meth.locks = false) (hret : meth.sig.returnType = some .long) {pc : Nat} {Ls : Array Slot} {z : Int64} {rest : List Value} {K N : Nat} {Q : Option Value → Heap → List Loc → Prop} (hd : decode c.code pc = .ok (.lreturn, 1)) (hK : cells ≤ K) (hN : slots ≤ N)
    (hQ : Q (some (.long z)) T.heap locs) : Go p e below (Left s K N Q) (T.setTop (mkF m pc Ls (.long z :: rest))) :=
  Go.out X (v := some (.long z)) hlocks (fun h => by rw [hret] at h; cases h) hK hN hQ fun fs hr => retOut X hx hret rfl (Or.inr (Or.inl ⟨rfl, rfl, z, rfl⟩)) hd hr
theorem ret_d (X : Stand p l e R s m args below meth c T locs cells slots) (hx : p.tables.exec = Jvm.exec) (hlocks : meth.locks = false) (hret : meth.sig.returnType = some .double) {pc : Nat} {Ls : Array Slot} {z : UInt64} {rest : List Value} {K N : Nat} {Q : Option Value → Heap → List Loc → Prop} (hd : decode c.code pc = .ok (.dreturn, 1)) (hK : cells ≤ K) (hN : slots ≤ N)
    (hQ : Q (some (.double z)) T.heap locs) : Go p e below (Left s K N Q) (T.setTop (mkF m pc Ls (.double z :: rest))) :=
  Go.out X (v := some (.double z)) hlocks (fun h => by rw [hret] at h; cases h) hK hN hQ fun fs hr => retOut X hx hret rfl (Or.inr (Or.inr (Or.inl ⟨rfl, rfl, z, rfl⟩))) hd hr
theorem ret_a (X : Stand p l e R s m args below meth c T locs cells slots) (hx : p.tables.exec = Jvm.exec) (hlocks : meth.locks = false) {t : FieldType} (hret : meth.sig.returnType = some t) (ht : t.isReference = true) {pc : Nat} {Ls : Array Slot} {v : Value} (hv : v.isRef = true) {rest : List Value} {K N : Nat} {Q : Option Value → Heap → List Loc → Prop} (hd : decode c.code pc = .ok (.areturn, 1)) (hK : cells ≤ K) (hN : slots ≤ N)
    (hQ : Q (some v) T.heap locs) : Go p e below (Left s K N Q) (T.setTop (mkF m pc Ls (v :: rest))) :=
  Go.out X (v := some v) hlocks (fun h => by rw [hret] at h; cases h) hK hN hQ fun fs hr => retOut X hx hret (by rcases ref_cases hv with rfl | ⟨a, rfl⟩ <;> cases t <;> first | rfl | cases ht) (Or.inr (Or.inr (Or.inr (Or.inr ⟨rfl, ht, hv⟩)))) hd hr
theorem ret_v (X : Stand p l e R s m args below meth c T locs cells slots) (hx : p.tables.exec = Jvm.exec) (hlocks : meth.locks = false) (hret : meth.sig.returnType = none) {pc : Nat} {Ls : Array Slot} {K N : Nat} {Q : Option Value → Heap → List Loc → Prop} (hd : decode c.code pc = .ok (.return_, 1)) (hK : cells ≤ K) (hN : slots ≤ N)
    (hQ : Q none T.heap locs) : Go p e below (Left s K N Q) (T.setTop (mkF m pc Ls [])) :=
  Go.out X (v := none) hlocks (fun _ => rfl) hK hN hQ fun fs hr => X.returnOut hx hret hd hr
/-- a call of an instance method, by its contract -/
theorem Go.virt (X : Stand p l e R s m args below meth c T locs cells slots) (hx : p.tables.exec = Jvm.exec) (hZ : Z.Warmed39 s.vm) {own C : String} {index : Nat} {y z : MethodName} (hown : s.vm.findClass own = some m.cls) (wl : (Cond.methodLink own index y).before a0 Z = true) (wd : (Cond.declares y).before a0 Z = true) (nf : NotFace s y)
    (wsel : (Cond.selects C y z).before a0 Z = true) (wi : (Cond.instanceMethod z).before a0 Z = true) {bytes : ByteArray} {maxL : Nat} {ret : Option FieldType} (wc : (Cond.code z bytes maxL ret).before a0 Z = true) (wz : (Cond.initialized z.cls).before a0 Z = true) (hy : y.cls ≠ "java/lang/invoke/MethodHandle" ∧ y.cls ≠ "java/lang/invoke/VarHandle")
    {rm : Room} {Q : Option Value → Heap → List Loc → Prop} {b : Addr} {argsL rest : List Value} (P : Pays l z bytes maxL ret rm Z (.ref b :: argsL).toArray h Q) (eT : T.heap = h) (E : Exa Z h b C) {pc : Nat} {Ls : Array Slot} {st : List Value} (hst : st = argsL.reverse ++ .ref b :: rest) (hsz : Ls.size = c.maxLocals) {ps : List FieldType} {r : Option FieldType} (hpd : parseMethodDescriptor y.desc = some ⟨ps, r⟩) (hlen : argsL.length = ps.length)
    (hd : decode c.code pc = .ok (.invokevirtual index, 3)) (W : Nat) (hW : (rest.map fun v => v.category).sum ≤ W) (hf : rm.frames + 1 ≤ R.frames) (hl : W + (maxL + 11) + rm.locals ≤ R.locals) (hc : cells + rm.cells ≤ R.cells) (hs : slots + rm.slots ≤ R.slots)
    (k : ∀ (v : Option Value) (T' : State) (L : List Loc), Stand p l e R s m args below meth c T' (locs ++ L) (cells + rm.cells) (slots + rm.slots) → Q v T'.heap L → Go p e below G (T'.setTop (mkF m (pc + 3) Ls (v.toList ++ rest)))) : Go p e below G (T.setTop (mkF m pc Ls st)) := by
  obtain ⟨cB, kB, hcB, -, hrecv⟩ := isOf hZ eT E
  obtain ⟨v, _, ⟨T', L', k', n'⟩, -, X', ⟨L, hQ, h1, h2, h3⟩, stp⟩ := X.virtualBack hx hown (mvT hZ wl) (mvT hZ wd) nf (mvT hZ wsel) (mvT hZ wi) hy (backOf (W := W) (P []) hZ wc wz hf hl) hcB hrecv (g := mkF m pc Ls st) rfl hsz (Steps.refl _) (argsL := argsL) (rest := rest) (lenOf hpd hlen) hst (by show 2 * 0 + _ ≤ _; omega) hd (fun _ _ => ⟨rfl, eT, hc, hs⟩)
  dsimp only at X' hQ h1 h2 h3 stp
  subst h1 h2 h3
  exact Go.tr stp (k v T' L X' hQ)
/-- a call of an inherited method through a subclass's name, by its contract -/
theorem Go.up (X : Stand p l e R s m args below meth c T locs cells slots) (hx : p.tables.exec = Jvm.exec) (hZ : Z.Warmed39 s.vm) {own C owner : String} {index : Nat} {xm y : MethodName} (hown : s.vm.findClass own = some m.cls) (wl : (Cond.methodLink own index xm).before a0 Z = true) (wsm : (Cond.sameMethod xm.cls owner xm.name xm.desc).before a0 Z = true)
    (wd : (Cond.declares ⟨owner, xm.name, xm.desc⟩).before a0 Z = true) (wsel : (Cond.selects C xm y).before a0 Z = true) (wi : (Cond.instanceMethod y).before a0 Z = true) {bytes : ByteArray} {maxL : Nat} {ret : Option FieldType} (wc : (Cond.code y bytes maxL ret).before a0 Z = true) (wz : (Cond.initialized y.cls).before a0 Z = true) (hy : owner ≠ "java/lang/invoke/MethodHandle" ∧ owner ≠ "java/lang/invoke/VarHandle")
    {rm : Room} {Q : Option Value → Heap → List Loc → Prop} {b : Addr} {argsL rest : List Value} (P : Pays l y bytes maxL ret rm Z (.ref b :: argsL).toArray h Q) (eT : T.heap = h) (E : Exa Z h b C) {pc : Nat} {Ls : Array Slot} {st : List Value} (hst : st = argsL.reverse ++ .ref b :: rest) (hsz : Ls.size = c.maxLocals) {ps : List FieldType} {r : Option FieldType} (hpd : parseMethodDescriptor xm.desc = some ⟨ps, r⟩) (hlen : argsL.length = ps.length)
    (hd : decode c.code pc = .ok (.invokevirtual index, 3)) (W : Nat) (hW : (rest.map fun v => v.category).sum ≤ W) (hf : rm.frames + 1 ≤ R.frames) (hl : W + (maxL + 11) + rm.locals ≤ R.locals) (hc : cells + rm.cells ≤ R.cells) (hs : slots + rm.slots ≤ R.slots)
    (k : ∀ (v : Option Value) (T' : State) (L : List Loc), Stand p l e R s m args below meth c T' (locs ++ L) (cells + rm.cells) (slots + rm.slots) → Q v T'.heap L → Go p e below G (T'.setTop (mkF m (pc + 3) Ls (v.toList ++ rest)))) : Go p e below G (T.setTop (mkF m pc Ls st)) := by
  obtain ⟨cB, kB, hcB, -, hrecv⟩ := isOf hZ eT E
  obtain ⟨v, _, ⟨T', L', k', n'⟩, -, X', ⟨L, hQ, h1, h2, h3⟩, stp⟩ := X.virtualBackUp hx hown (mvT hZ wl) (mvT hZ wsm) (mvT hZ wd) hy (mvT hZ wsel) (mvT hZ wi) (backOf (W := W) (P []) hZ wc wz hf hl) hcB hrecv (g := mkF m pc Ls st) rfl hsz (Steps.refl _) (argsL := argsL) (rest := rest) (lenOf hpd hlen) hst (by show 2 * 0 + _ ≤ _; omega) hd (fun _ _ => ⟨rfl, eT, hc, hs⟩)
  dsimp only at X' hQ h1 h2 h3 stp
  subst h1 h2 h3
  exact Go.tr stp (k v T' L X' hQ)
/-- a call of a private instance method by invokevirtual, by its contract -/
theorem Go.priv (X : Stand p l e R s m args below meth c T locs cells slots) (hx : p.tables.exec = Jvm.exec) (hZ : Z.Warmed39 s.vm) {own C : String} {index : Nat} {y : MethodName} (hown : s.vm.findClass own = some m.cls) (wl : (Cond.methodLink own index y).before a0 Z = true) (wi : (Cond.instanceMethod y).before a0 Z = true)
    (wsel : (Cond.selects y.cls y y).before a0 Z = true) (wp : (Cond.privateMethod y).before a0 Z = true) {bytes : ByteArray} {maxL : Nat} {ret : Option FieldType} (wc : (Cond.code y bytes maxL ret).before a0 Z = true) (wz : (Cond.initialized y.cls).before a0 Z = true) (hy : y.cls ≠ "java/lang/invoke/MethodHandle" ∧ y.cls ≠ "java/lang/invoke/VarHandle")
    {rm : Room} {Q : Option Value → Heap → List Loc → Prop} {b : Addr} {argsL rest : List Value} (P : Pays l y bytes maxL ret rm Z (.ref b :: argsL).toArray h Q) (eT : T.heap = h) (E : Exa Z h b C) {pc : Nat} {Ls : Array Slot} {st : List Value} (hst : st = argsL.reverse ++ .ref b :: rest) (hsz : Ls.size = c.maxLocals) {ps : List FieldType} {r : Option FieldType} (hpd : parseMethodDescriptor y.desc = some ⟨ps, r⟩) (hlen : argsL.length = ps.length)
    (hd : decode c.code pc = .ok (.invokevirtual index, 3)) (W : Nat) (hW : (rest.map fun v => v.category).sum ≤ W) (hf : rm.frames + 1 ≤ R.frames) (hl : W + (maxL + 11) + rm.locals ≤ R.locals) (hc : cells + rm.cells ≤ R.cells) (hs : slots + rm.slots ≤ R.slots)
    (k : ∀ (v : Option Value) (T' : State) (L : List Loc), Stand p l e R s m args below meth c T' (locs ++ L) (cells + rm.cells) (slots + rm.slots) → Q v T'.heap L → Go p e below G (T'.setTop (mkF m (pc + 3) Ls (v.toList ++ rest)))) : Go p e below G (T.setTop (mkF m pc Ls st)) := by
  obtain ⟨cell, hcell, hobj⟩ := E.cell
  obtain ⟨v, _, ⟨T', L', k', n'⟩, -, X', ⟨L, hQ, h1, h2, h3⟩, stp⟩ := X.privateBack hx hown (mvT hZ wl) (mvT hZ wi) (mvT hZ wsel) (Cond.privateMethod_at (mvP (args := args) hZ wp)) (mvT hZ wc) hy (backOf (W := W) (P []) hZ wc wz hf hl) (g := mkF m pc Ls st) rfl hsz (Steps.refl _) (a := b) (by rw [eT]; exact hcell) hobj (argsL := argsL) (rest := rest) (lenOf hpd hlen) hst (by show 2 * 0 + _ ≤ _; omega) hd (fun _ _ => ⟨rfl, eT, hc, hs⟩)
  dsimp only at X' hQ h1 h2 h3 stp
  subst h1 h2 h3
  exact Go.tr stp (k v T' L X' hQ)
/-- a call of an interface's method, by the contract of the method that it goes to -/
theorem Go.face (X : Stand p l e R s m args below meth c T locs cells slots) (hx : p.tables.exec = Jvm.exec) (hZ : Z.Warmed39 s.vm) {own C : String} {index count : Nat} {xi y : MethodName} (hown : s.vm.findClass own = some m.cls) (wl : (Cond.methodLink own index xi).before a0 Z = true) (wd : (Cond.declares xi).before a0 Z = true)
    (wf : (Cond.interfaceMethod xi.cls xi.cls xi.name xi.desc).before args s = true) (wsel : (Cond.selects C xi y).before a0 Z = true) (wi : (Cond.instanceMethod y).before a0 Z = true) (wpub : (Cond.publicMethod y).before a0 Z = true) (wun : (Cond.unhidden C xi.name xi.desc).before a0 Z = true) (wca : (Cond.castable C xi.cls).before a0 Z = true)
    {bytes : ByteArray} {maxL : Nat} {ret : Option FieldType} (wc : (Cond.code y bytes maxL ret).before a0 Z = true) (wz : (Cond.initialized y.cls).before a0 Z = true) (hy : xi.cls ≠ "java/lang/invoke/MethodHandle" ∧ xi.cls ≠ "java/lang/invoke/VarHandle")
    {rm : Room} {Q : Option Value → Heap → List Loc → Prop} {b : Addr} {argsL rest : List Value} (P : Pays l y bytes maxL ret rm Z (.ref b :: argsL).toArray h Q) (eT : T.heap = h) (E : Exa Z h b C) {pc : Nat} {Ls : Array Slot} {st : List Value} (hst : st = argsL.reverse ++ .ref b :: rest) (hsz : Ls.size = c.maxLocals) {ps : List FieldType} {r : Option FieldType} (hpd : parseMethodDescriptor xi.desc = some ⟨ps, r⟩) (hlen : argsL.length = ps.length)
    (hd : decode c.code pc = .ok (.invokeinterface index count, 5)) (W : Nat) (hW : (rest.map fun v => v.category).sum ≤ W) (hf : rm.frames + 1 ≤ R.frames) (hl : W + (maxL + 11) + rm.locals ≤ R.locals) (hc : cells + rm.cells ≤ R.cells) (hs : slots + rm.slots ≤ R.slots)
    (k : ∀ (v : Option Value) (T' : State) (L : List Loc), Stand p l e R s m args below meth c T' (locs ++ L) (cells + rm.cells) (slots + rm.slots) → Q v T'.heap L → Go p e below G (T'.setTop (mkF m (pc + 5) Ls (v.toList ++ rest)))) : Go p e below G (T.setTop (mkF m pc Ls st)) := by
  obtain ⟨cB, kB, hcB, hkB, hrecv⟩ := isOf hZ eT E
  obtain ⟨v, _, ⟨T', L', k', n'⟩, -, X', ⟨L, hQ, h1, h2, h3⟩, stp⟩ := X.interfaceBack hx hown (mvT hZ wl) (mvT hZ wd) wf (mvT hZ wsel) (mvT hZ wi) (mvT hZ wpub) (mvT hZ wun) (mvT hZ wca) hy (backOf (W := W) (P []) hZ wc wz hf hl) hcB hkB hrecv (g := mkF m pc Ls st) rfl hsz (Steps.refl _) (argsL := argsL) (rest := rest) (lenOf hpd hlen) hst (by show 2 * 0 + _ ≤ _; omega) hd (fun _ _ => ⟨rfl, eT, hc, hs⟩)
  dsimp only at X' hQ h1 h2 h3 stp
  subst h1 h2 h3
  exact Go.tr stp (k v T' L X' hQ)
/-- a call of a constructor, by its contract -/
theorem Go.init (X : Stand p l e R s m args below meth c T locs cells slots) (hx : p.tables.exec = Jvm.exec) (hZ : Z.Warmed39 s.vm) {own : String} {index : Nat} {y : MethodName} (hy1 : y.name = "<init>") (hown : s.vm.findClass own = some m.cls) (wl : (Cond.methodLink own index y).before a0 Z = true)
    (wi : (Cond.instanceMethod y).before a0 Z = true) {bytes : ByteArray} {maxL : Nat} (wc : (Cond.code y bytes maxL none).before a0 Z = true) (wz : (Cond.initialized y.cls).before a0 Z = true) (hy : y.cls ≠ "java/lang/invoke/MethodHandle" ∧ y.cls ≠ "java/lang/invoke/VarHandle")
    {rm : Room} {Q : Option Value → Heap → List Loc → Prop} {b : Addr} {argsL rest : List Value} (P : Pays l y bytes maxL none rm Z (.ref b :: argsL).toArray h Q) (eT : T.heap = h) {pc : Nat} {Ls : Array Slot} {st : List Value} (hst : st = argsL.reverse ++ .ref b :: rest) (hsz : Ls.size = c.maxLocals) {ps : List FieldType} {r : Option FieldType} (hpd : parseMethodDescriptor y.desc = some ⟨ps, r⟩) (hlen : argsL.length = ps.length)
    (hd : decode c.code pc = .ok (.invokespecial index, 3)) (W : Nat) (hW : (rest.map fun v => v.category).sum ≤ W) (hf : rm.frames + 1 ≤ R.frames) (hl : W + (maxL + 11) + rm.locals ≤ R.locals) (hc : cells + rm.cells ≤ R.cells) (hs : slots + rm.slots ≤ R.slots)
    (k : ∀ (v : Option Value) (T' : State) (L : List Loc), Stand p l e R s m args below meth c T' (locs ++ L) (cells + rm.cells) (slots + rm.slots) → Q v T'.heap L → Go p e below G (T'.setTop (mkF m (pc + 3) Ls (v.toList ++ rest)))) : Go p e below G (T.setTop (mkF m pc Ls st)) := by
  obtain ⟨v, _, ⟨T', L', k', n'⟩, -, X', ⟨L, hQ, h1, h2, h3⟩, stp⟩ := X.specialBack hx hy1 hown (mvT hZ wl) (mvT hZ wi) (mvT hZ wc) hy (backOf (W := W) (P []) hZ wc wz hf hl) (g := mkF m pc Ls st) rfl hsz (Steps.refl _) (a := b) (argsL := argsL) (rest := rest) (lenOf hpd hlen) hst (by show 2 * 0 + _ ≤ _; omega) hd (fun _ _ => ⟨rfl, eT, hc, hs⟩)
  dsimp only at X' hQ h1 h2 h3 stp
  subst h1 h2 h3
  exact Go.tr stp (k v T' L X' hQ)
/-- a call of a static method, by its contract -/
theorem Go.stat (X : Stand p l e R s m args below meth c T locs cells slots) (hx : p.tables.exec = Jvm.exec) (hZ : Z.Warmed39 s.vm) {own : String} {index : Nat} {y : MethodName} (hown : s.vm.findClass own = some m.cls) (wl : (Cond.methodLink own index y).before a0 Z = true)
    (wst : (Cond.static y).before a0 Z = true) (wz : (Cond.initialized y.cls).before a0 Z = true) {bytes : ByteArray} {maxL : Nat} {ret : Option FieldType} (wc : (Cond.code y bytes maxL ret).before a0 Z = true) (hy : y.cls ≠ "java/lang/invoke/MethodHandle" ∧ y.cls ≠ "java/lang/invoke/VarHandle")
    {rm : Room} {Q : Option Value → Heap → List Loc → Prop} {argsL rest : List Value} (P : Pays l y bytes maxL ret rm Z argsL.toArray h Q) (eT : T.heap = h) {pc : Nat} {Ls : Array Slot} {st : List Value} (hst : st = argsL.reverse ++ rest) (hsz : Ls.size = c.maxLocals) {ps : List FieldType} {r : Option FieldType} (hpd : parseMethodDescriptor y.desc = some ⟨ps, r⟩) (hlen : argsL.length = ps.length)
    (hd : decode c.code pc = .ok (.invokestatic index, 3)) (W : Nat) (hW : (rest.map fun v => v.category).sum ≤ W) (hf : rm.frames + 1 ≤ R.frames) (hl : W + (maxL + 11) + rm.locals ≤ R.locals) (hc : cells + rm.cells ≤ R.cells) (hs : slots + rm.slots ≤ R.slots)
    (k : ∀ (v : Option Value) (T' : State) (L : List Loc), Stand p l e R s m args below meth c T' (locs ++ L) (cells + rm.cells) (slots + rm.slots) → Q v T'.heap L → Go p e below G (T'.setTop (mkF m (pc + 3) Ls (v.toList ++ rest)))) : Go p e below G (T.setTop (mkF m pc Ls st)) := by
  obtain ⟨mk, hnamed⟩ := Cond.named_of_code (mvT (args := args) hZ wc)
  obtain ⟨methM, cM, hmeth, hcode, -, -, -, -, -, hsig⟩ := Cond.code_spec hnamed (mvT (args := args) hZ wc)
  obtain ⟨v, _, ⟨T', L', k', n'⟩, -, X', ⟨L, hQ, h1, h2, h3⟩, stp⟩ := X.staticBack hx hown (mvT hZ wl) (mvT hZ wst) (mvT hZ wz) hnamed hmeth hsig hy (backOf (W := W) (P []) hZ wc wz hf hl) (g := mkF m pc Ls st) rfl hsz (Steps.refl _) (argsL := argsL) (rest := rest) (lenOf hpd hlen) hst (by show 2 * 0 + _ ≤ _; omega) hd (fun _ _ => ⟨rfl, eT, hc, hs⟩)
  dsimp only at X' hQ h1 h2 h3 stp
  subst h1 h2 h3
  exact Go.tr stp (k v T' L X' hQ)
theorem own_alen (X : Stand p l e R s m args below meth c T locs cells slots) (hx : p.tables.exec = Jvm.exec) (hZ : Z.Warmed39 s.vm) (eT : T.heap = h) {a : Addr} {cl : Cell} {ty : FieldType} (A : Arr Z h a cl ty) {z : Int32} (q : cl.slots.size.toInt32 = z) {pc : Nat} {Ls : Array Slot} {st rest : List Value} (hst : st = .ref a :: rest)
    (hd : decode c.code pc = .ok (.arraylength, 1)) (target : State) (k : Steps p.tables e below (T.setTop (mkF m (pc + 1) Ls (.int z :: rest))) target) : Steps p.tables e below (T.setTop (mkF m pc Ls st)) target :=
  X.arraylength hx (by rw [eT]; exact A.1) (State.isArrayOf_alike hZ.alike A.2.1) (g := mkF m pc Ls st) rfl hst hd target (by rw [q]; exact k)
def ObjAt (h : Heap) (x : Addr) : Prop := ∃ cell : Cell, h[x]? = some cell ∧ cell.vm.isStatics = false
theorem own_obj_exa {x : Addr} {C : String} (F : Exa Z h x C) : ObjAt h x := by
  obtain ⟨c1, _, h1, _, _, h4, _⟩ := F
  exact ⟨c1, h1, h4⟩
theorem own_obj_arv {x : Addr} {k : ClassId} {ty : FieldType} {n : Int32} {vs : List Value} {d : Value} (F : Arv Z h x k ty n vs d) : ObjAt h x := by
  obtain ⟨c1, A, _⟩ := F
  exact ⟨c1, A.1, A.plain⟩
theorem own_sta_keep {h' : Heap} {C n d : String} {v : Value} {ws : List Addr} (F : Sta Z h C n d v) (K : Keep h h' ws) (hws : ∀ x ∈ ws, ObjAt h x) : Sta Z h' C n d v := by
  obtain ⟨cf, i, k, f, st, cell, h1, h2, h3, h4, h5, h6, h7⟩ := F
  refine ⟨cf, i, k, f, st, cell, h1, h2, h3, h4, K.2.1 _ _ h5 fun q => ?_, h6, h7⟩
  obtain ⟨c1, g1, g2⟩ := hws _ q
  cases h5.symm.trans g1
  rw [h6] at g2
  cases g2
theorem own_entry {n : Nat} {Ls : Array Slot} (h : Jvm.Sym.laidSlots args.toList ++ List.replicate (n - (Jvm.Sym.laidSlots args.toList).length) .unset = Ls.toList) : entryFrame m args n = mkF m 0 Ls [] := by
  have q : argsToLocals args n = Ls := Array.toList_inj.mp (by rw [Jvm.Sym.argsToLocals_toList]; exact h)
  unfold entryFrame
  rw [q]
theorem own_eqI {first : State} {o : Option Outcome} {idx : List Nat} {a b : Term} {x y : Int32} (ha : a.eval args first o idx s = some (.int x)) (hb : b.eval args first o idx s = some (.int y)) : (Jvm.Cond.eq a b).value args first o s idx = some (decide (x = y)) := by simp [Cond.value, ha, hb]
theorem own_nar_ref {t : FieldType} {v : Value} (hv : v.isRef = true) : narrow t v = v := by
  rcases ref_cases hv with rfl | ⟨a, rfl⟩ <;> cases t <;> rfl
theorem own_fit_ref {t : FieldType} {v : Value} (hv : v.isRef = true) (ht : t.isReference = true := by rfl) : fits t v = true := by
  rcases ref_cases hv with rfl | ⟨a, rfl⟩ <;> cases t <;> first | rfl | cases ht
end OwnGo
/-! own kit, the wide mode: a body that may load String constants; the constants of EL are held (CHv) -/
section OwnWide
variable {p : Program} {l : Launch} {e : Env} {R : Room} {s : State} {m : MethodId} {args : Array Value} {below : List Frame} {meth : Method} {c : Code} {T : State} {locs : List Loc} {cells slots : Nat} {Z : State} {a0 : Array Value} {h h0 : Heap} {G : Outcome → State → Prop} {S S' : State} {EL : List (String × Nat)} {vm0 : Vm} {k0 : Nat}
def LeftW (Z : State) (EL : List (String × Nat)) (s : State) (h0 : Heap) (K N : Nat) (Q : Option Value → Heap → List Loc → Prop) : Outcome → State → Prop :=
  fun o t => ∃ v L, o = .returned v ∧ Q v t.heap L ∧ CHr Z EL s.vm h0 t.vm t.heap ∧ ReturnedEndW s o t L K N
def PaysW (l : Launch) (y : MethodName) (bytes : ByteArray) (maxL : Nat) (ret : Option FieldType) (rm : Room) (Z : State) (EL : List (String × Nat)) (as' : Array Value) (h0 : Heap) (Q : Option Value → Heap → List Loc → Prop) : Prop :=
  ∀ ws, MetFree l y (head1 (Cond.code y bytes maxL ret :: ws) rm) (fun a U => a = as' ∧ Z.Warmed39 U.vm ∧ U.heap = h0 ∧ CHv Z EL U.vm h0) (fun _ _ _ _ _ => True) (fun _ U o U' => ∃ v L, o = .returned v ∧ Q v U'.heap L ∧ CHr Z EL U.vm U.heap U'.vm U'.heap ∧ ReturnedEndW U o U' L rm.cells rm.slots)
theorem PaysW.of {y : MethodName} {bytes : ByteArray} {maxL : Nat} {ret : Option FieldType} {rm : Room} {as' : Array Value} {Q : Option Value → Heap → List Loc → Prop} (hx : plainFor y = true)
    (body : ∀ (p : Program) (e : Env) (s : State) (m : MethodId) (below : List Frame) (meth : Method) (c : Code) (T : State), p.tables.exec = Jvm.exec → c.code = bytes → c.maxLocals = maxL → meth.sig.returnType = ret → meth.locks = false → Z.Warmed39 s.vm → s.vm.findClass y.cls = some m.cls → meth.name = y.name →
      T.heap = h0 → Stand p l e rm (s.setVm s.vm) m as' below meth c T [] 0 0 → CHr Z EL s.vm h0 s.vm h0 → s.Since s.vm 0 → Go p e below (LeftW Z EL s h0 rm.cells rm.slots Q) (T.setTop (entryFrame m as' maxL))) : PaysW l y bytes maxL ret rm Z EL as' h0 Q := by
  intro ws
  refine MetFree.of_bodySF hx hisR ?_
  intro p e s m args below meth c s₁ Bd hml0 hP hK
  obtain ⟨rfl, hZ, hh, hH⟩ := hP
  have k := body p e s m below meth c s₁ Bd.exec Bd.bytes hml0 Bd.returns Bd.notSynchronized hZ (findClass_of_methodNamed Bd.named) (name_of_methodNamed Bd.named Bd.method).1 (by rw [← hh, Bd.state]; rfl) (Stand.of_body Bd) (CHr.refl hH) ((State.WarmedH.refl s).since 0)
  obtain ⟨s₂, o, g1, g2, g3, v, L, q1, q2, q3, q4⟩ := k
  exact ⟨s₂, o, g1, g2, g3, v, L, q1, q2, hh ▸ q3, q4⟩
theorem Go.outW (X : Stand p l e R (s.setVm vm0) m args below meth c T locs cells slots) (hZ : Z.Warmed39 vm0) (hEL : EW Z a0 EL) (eT : T.heap = h) (hC : CHr Z EL s.vm h0 vm0 h) (hS : s.Since vm0 k0) (hk : k0 ≤ h.size) {v : Option Value} {K N : Nat} {Q : Option Value → Heap → List Loc → Prop} (hlocks : meth.locks = false) (hv : meth.sig.returnType = none → v = none) (hK : cells ≤ K) (hN : slots ≤ N) (hQ : Q v T.heap locs)
    (st : ∀ fs, (∀ (f : JFrame) (acts : List Action), f.method = m → f.locked = none → f.entered = [] → (doReturn e (T.setTop f) acts v).1 = T.setFrames fs) → Steps p.tables e below S (T.setFrames fs)) : Go p e below (LeftW Z EL s h0 K N Q) S := by
  subst eT
  obtain ⟨fs, hr, hrun, hended, hq⟩ := X.leaveW hS hk hv hlocks
  exact ⟨_, _, st fs hr, hrun, hended, v, locs, rfl, hQ, (show CHr Z EL s.vm h0 T.vm T.heap from hC.trans (CHv.at X hZ hEL hC.1)), hq.1, hq.2.1, hq.2.2.1, hq.2.2.2.mono hK hN⟩
theorem retw_b (X : Stand p l e R (s.setVm vm0) m args below meth c T locs cells slots) (hZ : Z.Warmed39 vm0) (hEL : EW Z a0 EL) (eT : T.heap = h) (hC : CHr Z EL s.vm h0 vm0 h) (hS : s.Since vm0 k0) (hk : k0 ≤ h.size) (hx : p.tables.exec = Jvm.exec) (hlocks : meth.locks = false) (hret : meth.sig.returnType = some .boolean) {pc : Nat} {Ls : Array Slot} {z : Int32} {rest : List Value} {K N : Nat} {Q : Option Value → Heap → List Loc → Prop} (hd : decode c.code pc = .ok (.ireturn, 1)) (hK : cells ≤ K) (hN : slots ≤ N)
    (hQ : Q (some (.int (z &&& 1))) T.heap locs) : Go p e below (LeftW Z EL s h0 K N Q) (T.setTop (mkF m pc Ls (.int z :: rest))) :=
  Go.outW X hZ hEL eT hC hS hk (v := some (.int (z &&& 1))) hlocks (fun h => by rw [hret] at h; cases h) hK hN hQ fun fs hr => retN X hx (t := .boolean) hret (by simp) hd hr
theorem retw_i (X : Stand p l e R (s.setVm vm0) m args below meth c T locs cells slots) (hZ : Z.Warmed39 vm0) (hEL : EW Z a0 EL) (eT : T.heap = h) (hC : CHr Z EL s.vm h0 vm0 h) (hS : s.Since vm0 k0) (hk : k0 ≤ h.size) (hx : p.tables.exec = Jvm.exec) (hlocks : meth.locks = false) (hret : meth.sig.returnType = some .int) {pc : Nat} {Ls : Array Slot} {z : Int32} {rest : List Value} {K N : Nat} {Q : Option Value → Heap → List Loc → Prop} (hd : decode c.code pc = .ok (.ireturn, 1)) (hK : cells ≤ K) (hN : slots ≤ N)
    (hQ : Q (some (.int z)) T.heap locs) : Go p e below (LeftW Z EL s h0 K N Q) (T.setTop (mkF m pc Ls (.int z :: rest))) :=
  Go.outW X hZ hEL eT hC hS hk (v := some (.int z)) hlocks (fun h => by rw [hret] at h; cases h) hK hN hQ fun fs hr => retOut X hx hret rfl (Or.inl ⟨rfl, Or.inl rfl, z, rfl⟩) hd hr
theorem retw_a (X : Stand p l e R (s.setVm vm0) m args below meth c T locs cells slots) (hZ : Z.Warmed39 vm0) (hEL : EW Z a0 EL) (eT : T.heap = h) (hC : CHr Z EL s.vm h0 vm0 h) (hS : s.Since vm0 k0) (hk : k0 ≤ h.size) (hx : p.tables.exec = Jvm.exec) (hlocks : meth.locks = false) {t : FieldType} (hret : meth.sig.returnType = some t) (ht : t.isReference = true) {pc : Nat} {Ls : Array Slot} {v : Value} (hv : v.isRef = true) {rest : List Value} {K N : Nat} {Q : Option Value → Heap → List Loc → Prop} (hd : decode c.code pc = .ok (.areturn, 1)) (hK : cells ≤ K) (hN : slots ≤ N)
    (hQ : Q (some v) T.heap locs) : Go p e below (LeftW Z EL s h0 K N Q) (T.setTop (mkF m pc Ls (v :: rest))) :=
  Go.outW X hZ hEL eT hC hS hk (v := some v) hlocks (fun h => by rw [hret] at h; cases h) hK hN hQ fun fs hr => retOut X hx hret (by rcases ref_cases hv with rfl | ⟨a, rfl⟩ <;> cases t <;> first | rfl | cases ht) (Or.inr (Or.inr (Or.inr (Or.inr ⟨rfl, ht, hv⟩)))) hd hr
theorem retw_v (X : Stand p l e R (s.setVm vm0) m args below meth c T locs cells slots) (hZ : Z.Warmed39 vm0) (hEL : EW Z a0 EL) (eT : T.heap = h) (hC : CHr Z EL s.vm h0 vm0 h) (hS : s.Since vm0 k0) (hk : k0 ≤ h.size) (hx : p.tables.exec = Jvm.exec) (hlocks : meth.locks = false) (hret : meth.sig.returnType = none) {pc : Nat} {Ls : Array Slot} {K N : Nat} {Q : Option Value → Heap → List Loc → Prop} (hd : decode c.code pc = .ok (.return_, 1)) (hK : cells ≤ K) (hN : slots ≤ N)
    (hQ : Q none T.heap locs) : Go p e below (LeftW Z EL s h0 K N Q) (T.setTop (mkF m pc Ls [])) :=
  Go.outW X hZ hEL eT hC hS hk (v := none) hlocks (fun _ => rfl) hK hN hQ fun fs hr => X.returnOut hx hret hd hr
theorem own_hown {own : String} {vm1 : Vm} (h : s.vm.findClass own = some m.cls) (hS : s.Since vm1 k0) : (s.setVm vm1).vm.findClass own = some m.cls := by
  rw [show (s.setVm vm1).vm.findClass own = vm1.findClass own from rfl, hS.1.alike.findClass]; exact h
theorem own_hZ {vm1 : Vm} (h : Z.Warmed39 s.vm) (hS : s.Since vm1 k0) : Z.Warmed39 (s.setVm vm1).vm := State.Warmed39.trans (t := s) h hS.1
/-- what stands behind a call of a body that may intern -/
theorem Go.initW (X : Stand p l e R (s.setVm vm0) m args below meth c T locs cells slots) (hx : p.tables.exec = Jvm.exec) (hZ : Z.Warmed39 (s.setVm vm0).vm) (hEL : EW Z a0 EL) (H : CHv Z EL vm0 h) (hS : s.Since vm0 k0) (hk : k0 ≤ h.size) {own : String} {index : Nat} {y : MethodName} (hy1 : y.name = "<init>") (hown : (s.setVm vm0).vm.findClass own = some m.cls) (wl : (Cond.methodLink own index y).before a0 Z = true)
    (wi : (Cond.instanceMethod y).before a0 Z = true) {bytes : ByteArray} {maxL : Nat} (wc : (Cond.code y bytes maxL none).before a0 Z = true) (wz : (Cond.initialized y.cls).before a0 Z = true) (hy : y.cls ≠ "java/lang/invoke/MethodHandle" ∧ y.cls ≠ "java/lang/invoke/VarHandle")
    {rm : Room} {Q : Option Value → Heap → List Loc → Prop} {b : Addr} {argsL rest : List Value} (P : PaysW l y bytes maxL none rm Z EL (.ref b :: argsL).toArray h Q) (eT : T.heap = h) {pc : Nat} {Ls : Array Slot} {st : List Value} (hst : st = argsL.reverse ++ .ref b :: rest) (hsz : Ls.size = c.maxLocals) {ps : List FieldType} {r : Option FieldType} (hpd : parseMethodDescriptor y.desc = some ⟨ps, r⟩) (hlen : argsL.length = ps.length)
    (hd : decode c.code pc = .ok (.invokespecial index, 3)) (W : Nat) (hW : (rest.map fun v => v.category).sum ≤ W) (hf : rm.frames + 1 ≤ R.frames) (hl : W + (maxL + 11) + rm.locals ≤ R.locals) (hc : cells + rm.cells ≤ R.cells) (hs : slots + rm.slots ≤ R.slots)
    (k : ∀ (v : Option Value) (T' : State) (L : List Loc), Stand p l e R (s.setVm T'.vm) m args below meth c T' (locs ++ L) (cells + rm.cells) (slots + rm.slots) → Q v T'.heap L → CHr Z EL vm0 h T'.vm T'.heap → s.Since T'.vm T'.heap.size → Go p e below G (T'.setTop (mkF m (pc + 3) Ls (v.toList ++ rest)))) : Go p e below G (T.setTop (mkF m pc Ls st)) := by
  obtain ⟨v, _, ⟨T', L', k', n'⟩, -, X', hS', hgr, ⟨L, hQ, h1, h2, h3, hC⟩, stp⟩ := X.specialBackS hx hy1 hown (mvT hZ wl) (mvT hZ wi) (mvT hZ wc) hy (backOfSH (s := s) (vm0 := vm0) (W := W) (P []) hZ wc wz hf hl hEL H) (g := mkF m pc Ls st) rfl hsz (Steps.refl _) (a := b) (argsL := argsL) (rest := rest) (lenOf hpd hlen) hst (by show 2 * 0 + _ ≤ _; omega) hd (fun _ _ => ⟨rfl, eT, hc, hs⟩)
  dsimp only at X' hQ h1 h2 h3 stp hC hS' hgr
  subst h1 h2 h3
  exact Go.tr stp (k v T' L X' hQ hC (hS.trans hS' (Nat.le_trans hk (eT ▸ hgr))))
theorem Go.statW (X : Stand p l e R (s.setVm vm0) m args below meth c T locs cells slots) (hx : p.tables.exec = Jvm.exec) (hZ : Z.Warmed39 (s.setVm vm0).vm) (hEL : EW Z a0 EL) (H : CHv Z EL vm0 h) (hS : s.Since vm0 k0) (hk : k0 ≤ h.size) {own : String} {index : Nat} {y : MethodName} (hown : (s.setVm vm0).vm.findClass own = some m.cls) (wl : (Cond.methodLink own index y).before a0 Z = true)
    (wst : (Cond.static y).before a0 Z = true) (wz : (Cond.initialized y.cls).before a0 Z = true) {bytes : ByteArray} {maxL : Nat} {ret : Option FieldType} (wc : (Cond.code y bytes maxL ret).before a0 Z = true) (hy : y.cls ≠ "java/lang/invoke/MethodHandle" ∧ y.cls ≠ "java/lang/invoke/VarHandle")
    {rm : Room} {Q : Option Value → Heap → List Loc → Prop} {argsL rest : List Value} (P : PaysW l y bytes maxL ret rm Z EL argsL.toArray h Q) (eT : T.heap = h) {pc : Nat} {Ls : Array Slot} {st : List Value} (hst : st = argsL.reverse ++ rest) (hsz : Ls.size = c.maxLocals) {ps : List FieldType} {r : Option FieldType} (hpd : parseMethodDescriptor y.desc = some ⟨ps, r⟩) (hlen : argsL.length = ps.length)
    (hd : decode c.code pc = .ok (.invokestatic index, 3)) (W : Nat) (hW : (rest.map fun v => v.category).sum ≤ W) (hf : rm.frames + 1 ≤ R.frames) (hl : W + (maxL + 11) + rm.locals ≤ R.locals) (hc : cells + rm.cells ≤ R.cells) (hs : slots + rm.slots ≤ R.slots)
    (k : ∀ (v : Option Value) (T' : State) (L : List Loc), Stand p l e R (s.setVm T'.vm) m args below meth c T' (locs ++ L) (cells + rm.cells) (slots + rm.slots) → Q v T'.heap L → CHr Z EL vm0 h T'.vm T'.heap → s.Since T'.vm T'.heap.size → Go p e below G (T'.setTop (mkF m (pc + 3) Ls (v.toList ++ rest)))) : Go p e below G (T.setTop (mkF m pc Ls st)) := by
  obtain ⟨mk, hnamed⟩ := Cond.named_of_code (mvT (args := args) hZ wc)
  obtain ⟨methM, cM, hmeth, hcode, -, -, -, -, -, hsig⟩ := Cond.code_spec hnamed (mvT (args := args) hZ wc)
  obtain ⟨v, _, ⟨T', L', k', n'⟩, -, X', hS', hgr, ⟨L, hQ, h1, h2, h3, hC⟩, stp⟩ := X.staticBackS hx hown (mvT hZ wl) (mvT hZ wst) (mvT hZ wz) hnamed hmeth hsig hy (backOfSH (s := s) (vm0 := vm0) (W := W) (P []) hZ wc wz hf hl hEL H) (g := mkF m pc Ls st) rfl hsz (Steps.refl _) (argsL := argsL) (rest := rest) (lenOf hpd hlen) hst (by show 2 * 0 + _ ≤ _; omega) hd (fun _ _ => ⟨rfl, eT, hc, hs⟩)
  dsimp only at X' hQ h1 h2 h3 stp hC hS' hgr
  subst h1 h2 h3
  exact Go.tr stp (k v T' L X' hQ hC (hS.trans hS' (Nat.le_trans hk (eT ▸ hgr))))
theorem own_safe_arv {x : Addr} {k : ClassId} {ty : FieldType} {n : Int32} {vs : List Value} {d : Value} (hal : Z.vm.Alike vm0) (F : Arv Z h x k ty n vs d) (ht : ty ≠ .byte) : Safe Z EL vm0 h x := by
  obtain ⟨cl, A, _⟩ := F
  exact Safe.arr hal A ht
/-- a String whose value is still null is no held constant -/
theorem own_safe_null {a : Addr} {vm1 : Vm} (hal : Z.vm.Alike vm1) (E : Exa Z h a "java/lang/String") (F : Fld Z h a "java/lang/String" "value" "[B" .null) : Safe Z EL vm1 h a := fun B => by
  obtain ⟨q0, -, u, a1, -, q, -, hSl, hy⟩ := B
  obtain ⟨cS, ⟨⟨s1, s2, s3, ⟨cv, kv, iv, s4, s4'⟩, ⟨cc, kc, ic, s5, s5'⟩, s6, s7, s8, s9, s10, s11, s12, s13, s14, s15, s16⟩, hfS, hcS⟩, ⟨kS, k1, k2, k3⟩, hB, hbyt⟩ := hSl
  rcases hy with rfl | rfl
  · obtain ⟨cell, cf, k, i, f, f1, f2, f3, f4, f5, f6, f7⟩ := F
    obtain ⟨kv', z4⟩ := ff_back (U := Wst Z vm1 h) hal s4
    cases f2.symm.trans z4
    have s1 : h[q.sa]? = some q.sC := s1
    cases f1.symm.trans s1
    rw [f7] at s8
    cases s8
  · obtain ⟨cell, k, f1, f2, -⟩ := E
    have s10 : h[q.sd]? = some q.SA := s10
    cases f1.symm.trans s10
    have hB : vm1.findClass "[B" = some q.SA.cls := hB
    rw [hal.findClass] at hB
    exact ids_ne f2 hB (by decide) rfl
end OwnWide
def own_EL : List (String × Nat) := [("java/lang/String", 7)]
theorem own_ew {Z : State} {a0 : Array Value} (hw : ∀ d ∈ tables_1, d.before a0 Z = true) : EW Z a0 own_EL := (EW.cons (hw _ (List.mem_of_getElem? (i := 82) rfl)) (by decide) EW.nil)
theorem own_ws {Z : State} {a0 : Array Value} (hw : ∀ d ∈ tables_1, d.before a0 Z = true) : ∀ a ∈ Bundle.stringAtoms, a.before a0 Z = true := by
  intro a ha
  simp only [Bundle.stringAtoms, Bundle.sN, List.mem_cons, List.not_mem_nil, or_false] at ha
  rcases ha with rfl | rfl | rfl | rfl | rfl | rfl | rfl
  · exact (hw _ (List.mem_of_getElem? (i := 2) rfl))
  · exact (hw _ (List.mem_of_getElem? (i := 1) rfl))
  · exact (hw _ (List.mem_of_getElem? (i := 19) rfl))
  · exact (hw _ (List.mem_of_getElem? (i := 29) rfl))
  · exact (hw _ (List.mem_of_getElem? (i := 27) rfl))
  · exact (hw _ (List.mem_of_getElem? (i := 83) rfl))
  · exact (hw _ (List.mem_of_getElem? (i := 84) rfl))
theorem dK5_1_0 : decode jdk_52_method_21_code 0 = .ok (.iconst 0, 1) := by decide +kernel
theorem dK5_1_1 : decode jdk_52_method_21_code 1 = .ok (.istore 5, 2) := by decide +kernel
theorem dK5_1_3 : decode jdk_52_method_21_code 3 = .ok (.iload 5, 2) := by decide +kernel
theorem dK5_1_5 : decode jdk_52_method_21_code 5 = .ok (.iload 4, 2) := by decide +kernel
theorem dK5_1_7 : decode jdk_52_method_21_code 7 = .ok (.if_icmp .ge 37, 3) := by decide +kernel
theorem dK5_1_10 : decode jdk_52_method_21_code 10 = .ok (.aload_n 0, 1) := by decide +kernel
theorem dK5_1_11 : decode jdk_52_method_21_code 11 = .ok (.iload_n 1, 1) := by decide +kernel
theorem dK5_1_12 : decode jdk_52_method_21_code 12 = .ok (.caload, 1) := by decide +kernel
theorem dK5_1_13 : decode jdk_52_method_21_code 13 = .ok (.istore 6, 2) := by decide +kernel
theorem dK5_1_15 : decode jdk_52_method_21_code 15 = .ok (.iload 6, 2) := by decide +kernel
theorem dK5_1_17 : decode jdk_52_method_21_code 17 = .ok (.sipush 255, 3) := by decide +kernel
theorem dK5_1_20 : decode jdk_52_method_21_code 20 = .ok (.if_icmp .le 6, 3) := by decide +kernel
theorem dK5_1_26 : decode jdk_52_method_21_code 26 = .ok (.aload_n 2, 1) := by decide +kernel
theorem dK5_1_27 : decode jdk_52_method_21_code 27 = .ok (.iload_n 3, 1) := by decide +kernel
theorem dK5_1_28 : decode jdk_52_method_21_code 28 = .ok (.iload 6, 2) := by decide +kernel
theorem dK5_1_30 : decode jdk_52_method_21_code 30 = .ok (.i2b, 1) := by decide +kernel
theorem dK5_1_31 : decode jdk_52_method_21_code 31 = .ok (.bastore, 1) := by decide +kernel
theorem dK5_1_32 : decode jdk_52_method_21_code 32 = .ok (.iinc 1 1, 3) := by decide +kernel
theorem dK5_1_35 : decode jdk_52_method_21_code 35 = .ok (.iinc 3 1, 3) := by decide +kernel
theorem dK5_1_38 : decode jdk_52_method_21_code 38 = .ok (.iinc 5 1, 3) := by decide +kernel
theorem dK5_1_41 : decode jdk_52_method_21_code 41 = .ok (.goto (-38), 3) := by decide +kernel
theorem dK5_1_44 : decode jdk_52_method_21_code 44 = .ok (.iload 4, 2) := by decide +kernel
theorem dK5_1_46 : decode jdk_52_method_21_code 46 = .ok (.ireturn, 1) := by decide +kernel
theorem pn_java_lang_StringUTF16 : plainName "java/lang/StringUTF16" = true := by first | (simp [plainName, overriddenIn]; done) | decide +kernel
theorem ef_rmK5_1 (m : MethodId) (ca : Addr) (d : Addr) : entryFrame m #[(.ref ca), (.int (0 : Int32)), (.ref d), (.int (0 : Int32)), (.int (1 : Int32))] 7 = mkF m 0 #[.val (.ref ca), .val (.int (0 : Int32)), .val (.ref d), .val (.int (0 : Int32)), .val (.int (1 : Int32)), .unset, .unset] [] := by first | exact own_entry rfl | (simp [entryFrame, mkF, argsToLocals, Value.category]; done) | rfl
set_option maxRecDepth 65536 in
set_option maxHeartbeats 40000000 in
theorem rmK5_1 (l : Launch) (Z : State) (a0 : Array Value) (hw : ∀ d ∈ tables_1, d.before a0 Z = true) (ca d : Addr) (kc kd : ClassId) (x0 : Int32) (h0 : Heap) (n0 : Nat) (Z0 : n0 ≤ h0.size) (V_c : Arv Z h0 ca kc .char (1 : Int32) [(.int x0)] (.int (0 : Int32))) (V_d : Arv Z h0 d kd .byte (1 : Int32) [(.int (0 : Int32))] (.int (0 : Int32))) (hcd : ca ≠ d) (hd : n0 ≤ d) (hx0 : ¬ (255 : Int32) < x0) :
    Pays l (⟨"java/lang/StringUTF16", "compress", "([CI[BII)I"⟩ : MethodName) jdk_52_method_21_code 7 (some .int) ({ frames := 0, cells := 0, slots := 0, locals := 0 } : Room) Z #[(.ref ca), (.int (0 : Int32)), (.ref d), (.int (0 : Int32)), (.int (1 : Int32))] h0 (fun v h L => v = some (.int (1 : Int32)) ∧ Fr n0 L ∧ Keep h0 h [d] ∧ Arv Z h d kd .byte (1 : Int32) [(.int (nar .byte (x0).toInt8.toInt32))] (.int (0 : Int32))) := by
  refine Pays.of (plainFor_of_name pn_java_lang_StringUTF16) ?_
  intro pP eE sS m below methM cC T hx hby hml hret hlk hZ hown hnm eT X
  replace hown : sS.vm.findClass "java/lang/StringUTF16" = some m.cls := hown
  have N0 := Fr.nil n0
  have K0 := Keep.refl h0 [d]
  refine Go.cast (ef_rmK5_1 m ca d) ?_
  refine Go.st (S' := T.setTop (mkF m 1 #[.val (.ref ca), .val (.int (0 : Int32)), .val (.ref d), .val (.int (0 : Int32)), .val (.int (1 : Int32)), .unset, .unset] [(.int (0 : Int32))])) (fun t kt => XS.iconst X.here hx rfl (hb hby dK5_1_0) kt) ?_
  refine Go.st (S' := T.setTop (mkF m 3 #[.val (.ref ca), .val (.int (0 : Int32)), .val (.ref d), .val (.int (0 : Int32)), .val (.int (1 : Int32)), .val (.int (0 : Int32)), .unset] [])) (fun t kt => XS.istore X.here hx rfl (hb hby dK5_1_1) rfl rfl kt) ?_
  refine Go.st (S' := T.setTop (mkF m 5 #[.val (.ref ca), .val (.int (0 : Int32)), .val (.ref d), .val (.int (0 : Int32)), .val (.int (1 : Int32)), .val (.int (0 : Int32)), .unset] [(.int (0 : Int32))])) (fun t kt => XS.iload X.here hx rfl (hb hby dK5_1_3) rfl kt) ?_
  refine Go.st (S' := T.setTop (mkF m 7 #[.val (.ref ca), .val (.int (0 : Int32)), .val (.ref d), .val (.int (0 : Int32)), .val (.int (1 : Int32)), .val (.int (0 : Int32)), .unset] [(.int (1 : Int32)), (.int (0 : Int32))])) (fun t kt => XS.iload X.here hx rfl (hb hby dK5_1_5) rfl kt) ?_
  refine Go.st (S' := T.setTop (mkF m 10 #[.val (.ref ca), .val (.int (0 : Int32)), .val (.ref d), .val (.int (0 : Int32)), .val (.int (1 : Int32)), .val (.int (0 : Int32)), .unset] [])) (fun t kt => XS.icmpNo X.here hx rfl (hb hby dK5_1_7) rfl (XT.ii_ge_f (by decide)) kt) ?_
  refine Go.st (S' := T.setTop (mkF m 11 #[.val (.ref ca), .val (.int (0 : Int32)), .val (.ref d), .val (.int (0 : Int32)), .val (.int (1 : Int32)), .val (.int (0 : Int32)), .unset] [(.ref ca)])) (fun t kt => XS.aloadN X.here hx rfl (hb hby dK5_1_10) rfl rfl kt) ?_
  refine Go.st (S' := T.setTop (mkF m 12 #[.val (.ref ca), .val (.int (0 : Int32)), .val (.ref d), .val (.int (0 : Int32)), .val (.int (1 : Int32)), .val (.int (0 : Int32)), .unset] [(.int (0 : Int32)), (.ref ca)])) (fun t kt => XS.iloadN X.here hx rfl (hb hby dK5_1_11) rfl kt) ?_
  obtain ⟨cl1, Ar1, q1, S1, M1, H1, G1⟩ := id V_c
  refine Go.st (S' := T.setTop (mkF m 13 #[.val (.ref ca), .val (.int (0 : Int32)), .val (.ref d), .val (.int (0 : Int32)), .val (.int (1 : Int32)), .val (.int (0 : Int32)), .unset] [(.int x0)])) (fun t kt => X.caload hx (j := (0 : Int32)) (v := (.int x0)) (by rw [eT]; exact Ar1.1) (State.isArrayOf_alike hZ.alike Ar1.2.1) Ar1.2.2 (inb_of S1 ⟨by decide, by decide⟩) (Has.at H1 (inb_of S1 ⟨by decide, by decide⟩) rfl) (g := (mkF m 12 #[.val (.ref ca), .val (.int (0 : Int32)), .val (.ref d), .val (.int (0 : Int32)), .val (.int (1 : Int32)), .val (.int (0 : Int32)), .unset] [(.int (0 : Int32)), (.ref ca)])) rfl rfl (hb hby dK5_1_12) t kt) ?_
  refine Go.st (S' := T.setTop (mkF m 15 #[.val (.ref ca), .val (.int (0 : Int32)), .val (.ref d), .val (.int (0 : Int32)), .val (.int (1 : Int32)), .val (.int (0 : Int32)), .val (.int x0)] [])) (fun t kt => XS.istore X.here hx rfl (hb hby dK5_1_13) rfl rfl kt) ?_
  refine Go.st (S' := T.setTop (mkF m 17 #[.val (.ref ca), .val (.int (0 : Int32)), .val (.ref d), .val (.int (0 : Int32)), .val (.int (1 : Int32)), .val (.int (0 : Int32)), .val (.int x0)] [(.int x0)])) (fun t kt => XS.iload X.here hx rfl (hb hby dK5_1_15) rfl kt) ?_
  refine Go.st (S' := T.setTop (mkF m 20 #[.val (.ref ca), .val (.int (0 : Int32)), .val (.ref d), .val (.int (0 : Int32)), .val (.int (1 : Int32)), .val (.int (0 : Int32)), .val (.int x0)] [(.int (255 : Int32)), (.int x0)])) (fun t kt => XT.sipushV X.here hx rfl (255 : Int32) (hb hby dK5_1_17) (by decide) kt) ?_
  refine Go.st (S' := T.setTop (mkF m 26 #[.val (.ref ca), .val (.int (0 : Int32)), .val (.ref d), .val (.int (0 : Int32)), .val (.int (1 : Int32)), .val (.int (0 : Int32)), .val (.int x0)] [])) (fun t kt => XS.icmpYes X.here hx rfl (pc0 := 20) (pc' := 26) rfl (hb hby dK5_1_20) rfl (XT.ii_le_t hx0) (by decide) (by decide) kt) ?_
  refine Go.st (S' := T.setTop (mkF m 27 #[.val (.ref ca), .val (.int (0 : Int32)), .val (.ref d), .val (.int (0 : Int32)), .val (.int (1 : Int32)), .val (.int (0 : Int32)), .val (.int x0)] [(.ref d)])) (fun t kt => XS.aloadN X.here hx rfl (hb hby dK5_1_26) rfl rfl kt) ?_
  refine Go.st (S' := T.setTop (mkF m 28 #[.val (.ref ca), .val (.int (0 : Int32)), .val (.ref d), .val (.int (0 : Int32)), .val (.int (1 : Int32)), .val (.int (0 : Int32)), .val (.int x0)] [(.int (0 : Int32)), (.ref d)])) (fun t kt => XS.iloadN X.here hx rfl (hb hby dK5_1_27) rfl kt) ?_
  refine Go.st (S' := T.setTop (mkF m 30 #[.val (.ref ca), .val (.int (0 : Int32)), .val (.ref d), .val (.int (0 : Int32)), .val (.int (1 : Int32)), .val (.int (0 : Int32)), .val (.int x0)] [(.int x0), (.int (0 : Int32)), (.ref d)])) (fun t kt => XS.iload X.here hx rfl (hb hby dK5_1_28) rfl kt) ?_
  refine Go.st (S' := T.setTop (mkF m 31 #[.val (.ref ca), .val (.int (0 : Int32)), .val (.ref d), .val (.int (0 : Int32)), .val (.int (1 : Int32)), .val (.int (0 : Int32)), .val (.int x0)] [(.int (x0).toInt8.toInt32), (.int (0 : Int32)), (.ref d)])) (fun t kt => XT.i2b X.here hx rfl (hb hby dK5_1_30) rfl kt) ?_
  obtain ⟨cl2, Ar2, q2, S2, M2, H2, G2⟩ := id V_d
  obtain ⟨T2, h2, X2, e2, W2, st2⟩ := stB X hx hZ eT Ar2 (j := (0 : Int32)) (inb_of S2 ⟨by decide, by decide⟩)  (g := (mkF m 31 #[.val (.ref ca), .val (.int (0 : Int32)), .val (.ref d), .val (.int (0 : Int32)), .val (.int (1 : Int32)), .val (.int (0 : Int32)), .val (.int x0)] [(.int (x0).toInt8.toInt32), (.int (0 : Int32)), (.ref d)])) rfl rfl (hb hby dK5_1_31)
  have V2 : Arv Z h2 d kd .byte (1 : Int32) [(.int (nar .byte (x0).toInt8.toInt32))] (.int (0 : Int32)) := Arv.set Ar2 q2 S2 M2 H2 G2 (fits_nar_byte _) W2 0 rfl (Nat.le_of_ble_eq_true rfl)
  have N2 := Fr.snoc X2 N0 hd
  have Z2 : n0 ≤ h2.size := by rw [Wr.size W2]; exact Z0
  have K2 := Keep.wr K0 W2 (Or.inl (List.mem_of_getElem? (i := 0) rfl))
  refine Go.st (S' := T2.setTop (mkF m 32 #[.val (.ref ca), .val (.int (0 : Int32)), .val (.ref d), .val (.int (0 : Int32)), .val (.int (1 : Int32)), .val (.int (0 : Int32)), .val (.int x0)] [])) (fun t kt => st2 t kt) ?_
  refine Go.st (S' := T2.setTop (mkF m 35 #[.val (.ref ca), .val (.int (1 : Int32)), .val (.ref d), .val (.int (0 : Int32)), .val (.int (1 : Int32)), .val (.int (0 : Int32)), .val (.int x0)] [])) (fun t kt => XT.iincV X2.here hx rfl (1 : Int32) (hb hby dK5_1_32) (by decide) rfl rfl kt) ?_
  refine Go.st (S' := T2.setTop (mkF m 38 #[.val (.ref ca), .val (.int (1 : Int32)), .val (.ref d), .val (.int (1 : Int32)), .val (.int (1 : Int32)), .val (.int (0 : Int32)), .val (.int x0)] [])) (fun t kt => XT.iincV X2.here hx rfl (1 : Int32) (hb hby dK5_1_35) (by decide) rfl rfl kt) ?_
  refine Go.st (S' := T2.setTop (mkF m 41 #[.val (.ref ca), .val (.int (1 : Int32)), .val (.ref d), .val (.int (1 : Int32)), .val (.int (1 : Int32)), .val (.int (1 : Int32)), .val (.int x0)] [])) (fun t kt => XT.iincV X2.here hx rfl (1 : Int32) (hb hby dK5_1_38) (by decide) rfl rfl kt) ?_
  refine Go.st (S' := T2.setTop (mkF m 3 #[.val (.ref ca), .val (.int (1 : Int32)), .val (.ref d), .val (.int (1 : Int32)), .val (.int (1 : Int32)), .val (.int (1 : Int32)), .val (.int x0)] [])) (fun t kt => XS.goto X2.here hx rfl (pc0 := 41) (pc' := 3) rfl (hb hby dK5_1_41) (by decide) (by decide) kt) ?_
  refine Go.st (S' := T2.setTop (mkF m 5 #[.val (.ref ca), .val (.int (1 : Int32)), .val (.ref d), .val (.int (1 : Int32)), .val (.int (1 : Int32)), .val (.int (1 : Int32)), .val (.int x0)] [(.int (1 : Int32))])) (fun t kt => XS.iload X2.here hx rfl (hb hby dK5_1_3) rfl kt) ?_
  refine Go.st (S' := T2.setTop (mkF m 7 #[.val (.ref ca), .val (.int (1 : Int32)), .val (.ref d), .val (.int (1 : Int32)), .val (.int (1 : Int32)), .val (.int (1 : Int32)), .val (.int x0)] [(.int (1 : Int32)), (.int (1 : Int32))])) (fun t kt => XS.iload X2.here hx rfl (hb hby dK5_1_5) rfl kt) ?_
  refine Go.st (S' := T2.setTop (mkF m 44 #[.val (.ref ca), .val (.int (1 : Int32)), .val (.ref d), .val (.int (1 : Int32)), .val (.int (1 : Int32)), .val (.int (1 : Int32)), .val (.int x0)] [])) (fun t kt => XS.icmpYes X2.here hx rfl (pc0 := 7) (pc' := 44) rfl (hb hby dK5_1_7) rfl (XT.ii_ge_t (by decide)) (by decide) (by decide) kt) ?_
  refine Go.st (S' := T2.setTop (mkF m 46 #[.val (.ref ca), .val (.int (1 : Int32)), .val (.ref d), .val (.int (1 : Int32)), .val (.int (1 : Int32)), .val (.int (1 : Int32)), .val (.int x0)] [(.int (1 : Int32))])) (fun t kt => XS.iload X2.here hx rfl (hb hby dK5_1_44) rfl kt) ?_
  exact ret_i X2 hx hlk hret (hb hby dK5_1_46) (by decide) (by decide) (by rw [e2]; exact ⟨rfl, N2, K2, V2⟩)
theorem dK3_1_0 : decode jdk_52_method_16_code 0 = .ok (.iload_n 2, 1) := by decide +kernel
theorem dK3_1_1 : decode jdk_52_method_16_code 1 = .ok (.newarray .byte, 2) := by decide +kernel
theorem dK3_1_3 : decode jdk_52_method_16_code 3 = .ok (.astore_n 3, 1) := by decide +kernel
theorem dK3_1_4 : decode jdk_52_method_16_code 4 = .ok (.aload_n 0, 1) := by decide +kernel
theorem dK3_1_5 : decode jdk_52_method_16_code 5 = .ok (.iload_n 1, 1) := by decide +kernel
theorem dK3_1_6 : decode jdk_52_method_16_code 6 = .ok (.aload_n 3, 1) := by decide +kernel
theorem dK3_1_7 : decode jdk_52_method_16_code 7 = .ok (.iconst 0, 1) := by decide +kernel
theorem dK3_1_8 : decode jdk_52_method_16_code 8 = .ok (.iload_n 2, 1) := by decide +kernel
theorem dK3_1_9 : decode jdk_52_method_16_code 9 = .ok (.invokestatic 115, 3) := by decide +kernel
theorem dK3_1_12 : decode jdk_52_method_16_code 12 = .ok (.istore 4, 2) := by decide +kernel
theorem dK3_1_14 : decode jdk_52_method_16_code 14 = .ok (.iload 4, 2) := by decide +kernel
theorem dK3_1_16 : decode jdk_52_method_16_code 16 = .ok (.iload_n 2, 1) := by decide +kernel
theorem dK3_1_17 : decode jdk_52_method_16_code 17 = .ok (.if_icmp .eq 40, 3) := by decide +kernel
theorem dK3_1_57 : decode jdk_52_method_16_code 57 = .ok (.aload_n 3, 1) := by decide +kernel
theorem dK3_1_58 : decode jdk_52_method_16_code 58 = .ok (.areturn, 1) := by decide +kernel
theorem pd___CI_BII_I : parseMethodDescriptor "([CI[BII)I" = some ⟨[(.array .char), .int, (.array .byte), .int, .int], some .int⟩ := by decide +kernel
theorem ef_rmK3_1 (m : MethodId) (ca : Addr) : entryFrame m #[(.ref ca), (.int (0 : Int32)), (.int (1 : Int32))] 6 = mkF m 0 #[.val (.ref ca), .val (.int (0 : Int32)), .val (.int (1 : Int32)), .unset, .unset, .unset] [] := by first | exact own_entry rfl | (simp [entryFrame, mkF, argsToLocals, Value.category]; done) | rfl
set_option maxRecDepth 65536 in
set_option maxHeartbeats 40000000 in
theorem rmK3_1 (l : Launch) (Z : State) (a0 : Array Value) (hw : ∀ d ∈ tables_1, d.before a0 Z = true) (ca : Addr) (kc : ClassId) (x0 : Int32) (h0 : Heap) (n0 : Nat) (Z0 : n0 ≤ h0.size) (V_c : Arv Z h0 ca kc .char (1 : Int32) [(.int x0)] (.int (0 : Int32))) (hx0 : ¬ (255 : Int32) < x0) :
    Pays l (⟨"java/lang/StringUTF16", "compress", "([CII)[B"⟩ : MethodName) jdk_52_method_16_code 6 (some (.array .byte)) ({ frames := 1, cells := 1, slots := 1, locals := 18 } : Room) Z #[(.ref ca), (.int (0 : Int32)), (.int (1 : Int32))] h0 (fun v h L => ∃ d k, v = some (.ref d) ∧ Fr n0 L ∧ Keep h0 h [] ∧ h0.size ≤ d ∧ n0 ≤ d ∧ Arv Z h d k .byte (1 : Int32) [(.int (nar .byte (x0).toInt8.toInt32))] (.int (0 : Int32))) := by
  refine Pays.of (plainFor_of_name pn_java_lang_StringUTF16) ?_
  intro pP eE sS m below methM cC T hx hby hml hret hlk hZ hown hnm eT X
  replace hown : sS.vm.findClass "java/lang/StringUTF16" = some m.cls := hown
  have N0 := Fr.nil n0
  have K0 := Keep.refl h0 ([] : List Addr)
  refine Go.cast (ef_rmK3_1 m ca) ?_
  refine Go.st (S' := T.setTop (mkF m 1 #[.val (.ref ca), .val (.int (0 : Int32)), .val (.int (1 : Int32)), .unset, .unset, .unset] [(.int (1 : Int32))])) (fun t kt => XS.iloadN X.here hx rfl (hb hby dK3_1_0) rfl kt) ?_
  obtain ⟨T1, h1, k1, X1, e1, E1, A1, st1⟩ := newP X hx hZ (hw _ (List.mem_of_getElem? (i := 19) rfl)) eT (g := (mkF m 1 #[.val (.ref ca), .val (.int (0 : Int32)), .val (.int (1 : Int32)), .unset, .unset, .unset] [(.int (1 : Int32))])) rfl (hb hby dK3_1_1) rfl (by decide) (cap := 1) (by decide) (by decide) (by decide) (by decide)
  obtain ⟨a1, g1⟩ : ∃ z, z = h0.size := ⟨_, rfl⟩
  rw [← g1] at A1 st1
  have V1 : Arv Z h1 a1 k1 .byte (1 : Int32) [(.int (0 : Int32))] (.int (0 : Int32)) := Arv.pad (Arv.new A1 (by decide)) (pad_rep [] _ 1)
  have Z1 : n0 ≤ h1.size := Nat.le_trans Z0 E1.1
  have K1 := Keep.ext K0 E1
  have sz_a1 : h0.size ≤ a1 := Nat.le_trans K0.1 (Nat.le_of_eq g1.symm)
  refine Go.st (S' := T1.setTop (mkF m 3 #[.val (.ref ca), .val (.int (0 : Int32)), .val (.int (1 : Int32)), .unset, .unset, .unset] [(.ref a1)])) (fun t kt => st1 t kt) ?_
  refine Go.st (S' := T1.setTop (mkF m 4 #[.val (.ref ca), .val (.int (0 : Int32)), .val (.int (1 : Int32)), .val (.ref a1), .unset, .unset] [])) (fun t kt => XS.astoreN X1.here hx rfl (hb hby dK3_1_3) rfl rfl rfl kt) ?_
  refine Go.st (S' := T1.setTop (mkF m 5 #[.val (.ref ca), .val (.int (0 : Int32)), .val (.int (1 : Int32)), .val (.ref a1), .unset, .unset] [(.ref ca)])) (fun t kt => XS.aloadN X1.here hx rfl (hb hby dK3_1_4) rfl rfl kt) ?_
  refine Go.st (S' := T1.setTop (mkF m 6 #[.val (.ref ca), .val (.int (0 : Int32)), .val (.int (1 : Int32)), .val (.ref a1), .unset, .unset] [(.int (0 : Int32)), (.ref ca)])) (fun t kt => XS.iloadN X1.here hx rfl (hb hby dK3_1_5) rfl kt) ?_
  refine Go.st (S' := T1.setTop (mkF m 7 #[.val (.ref ca), .val (.int (0 : Int32)), .val (.int (1 : Int32)), .val (.ref a1), .unset, .unset] [(.ref a1), (.int (0 : Int32)), (.ref ca)])) (fun t kt => XS.aloadN X1.here hx rfl (hb hby dK3_1_6) rfl rfl kt) ?_
  refine Go.st (S' := T1.setTop (mkF m 8 #[.val (.ref ca), .val (.int (0 : Int32)), .val (.int (1 : Int32)), .val (.ref a1), .unset, .unset] [(.int (0 : Int32)), (.ref a1), (.int (0 : Int32)), (.ref ca)])) (fun t kt => XS.iconst X1.here hx rfl (hb hby dK3_1_7) kt) ?_
  refine Go.st (S' := T1.setTop (mkF m 9 #[.val (.ref ca), .val (.int (0 : Int32)), .val (.int (1 : Int32)), .val (.ref a1), .unset, .unset] [(.int (1 : Int32)), (.int (0 : Int32)), (.ref a1), (.int (0 : Int32)), (.ref ca)])) (fun t kt => XS.iloadN X1.here hx rfl (hb hby dK3_1_8) rfl kt) ?_
  have f2 := (V_c.ext E1)
  refine Go.stat X1 hx hZ hown (hw _ (List.mem_of_getElem? (i := 20) rfl)) (hw _ (List.mem_of_getElem? (i := 21) rfl)) (hw _ (List.mem_of_getElem? (i := 17) rfl)) (hw _ (List.mem_of_getElem? (i := 22) rfl)) (by decide) (argsL := [(.ref ca), (.int (0 : Int32)), (.ref a1), (.int (0 : Int32)), (.int (1 : Int32))]) (rest := []) (rmK5_1 l Z a0 hw ca a1 kc k1 x0 h1 n0 Z1 f2 V1 (Nat.ne_of_lt (by rw [g1]; exact V_c.lt)) (Nat.le_trans Z0 (Nat.le_of_eq g1.symm)) hx0) e1 rfl (by rw [hml]; rfl) pd___CI_BII_I rfl (hb hby dK3_1_9) 0 (Nat.le_refl _) (by decide) (by decide) (by decide) (by decide) ?_
  intro v3 T3 L3 X3 hQ3
  obtain ⟨hv3, N3', K3', f3_0⟩ := hQ3
  subst hv3
  have N3 := Fr.app N0 N3'
  have Z3 : n0 ≤ T3.heap.size := Nat.le_trans Z1 K3'.1
  have eh3 : T3.heap = T3.heap := rfl
  have K3 := Keep.trans K1 K3' (allS (Or.inr sz_a1) all0)
  show Go pP eE below _ (T3.setTop (mkF m 12 #[.val (.ref ca), .val (.int (0 : Int32)), .val (.int (1 : Int32)), .val (.ref a1), .unset, .unset] [(.int (1 : Int32))]))
  refine Go.st (S' := T3.setTop (mkF m 14 #[.val (.ref ca), .val (.int (0 : Int32)), .val (.int (1 : Int32)), .val (.ref a1), .val (.int (1 : Int32)), .unset] [])) (fun t kt => XS.istore X3.here hx rfl (hb hby dK3_1_12) rfl rfl kt) ?_
  refine Go.st (S' := T3.setTop (mkF m 16 #[.val (.ref ca), .val (.int (0 : Int32)), .val (.int (1 : Int32)), .val (.ref a1), .val (.int (1 : Int32)), .unset] [(.int (1 : Int32))])) (fun t kt => XS.iload X3.here hx rfl (hb hby dK3_1_14) rfl kt) ?_
  refine Go.st (S' := T3.setTop (mkF m 17 #[.val (.ref ca), .val (.int (0 : Int32)), .val (.int (1 : Int32)), .val (.ref a1), .val (.int (1 : Int32)), .unset] [(.int (1 : Int32)), (.int (1 : Int32))])) (fun t kt => XS.iloadN X3.here hx rfl (hb hby dK3_1_16) rfl kt) ?_
  refine Go.st (S' := T3.setTop (mkF m 57 #[.val (.ref ca), .val (.int (0 : Int32)), .val (.int (1 : Int32)), .val (.ref a1), .val (.int (1 : Int32)), .unset] [])) (fun t kt => XS.icmpYes X3.here hx rfl (pc0 := 17) (pc' := 57) rfl (hb hby dK3_1_17) rfl (XT.ii_eq_t (by decide)) (by decide) (by decide) kt) ?_
  refine Go.st (S' := T3.setTop (mkF m 58 #[.val (.ref ca), .val (.int (0 : Int32)), .val (.int (1 : Int32)), .val (.ref a1), .val (.int (1 : Int32)), .unset] [(.ref a1)])) (fun t kt => XS.aloadN X3.here hx rfl (hb hby dK3_1_57) rfl rfl kt) ?_
  exact ret_a X3 hx hlk hret rfl rfl (hb hby dK3_1_58) (by decide) (by decide) (⟨_, _, rfl, N3, K3, sz_a1, (Nat.le_trans Z0 (Nat.le_of_eq g1.symm)), f3_0⟩)
theorem dKF_1_0 : decode jdk_52_method_15_code 0 = .ok (.iload_n 1, 1) := by decide +kernel
theorem dKF_1_1 : decode jdk_52_method_15_code 1 = .ok (.aload_n 0, 1) := by decide +kernel
theorem dKF_1_2 : decode jdk_52_method_15_code 2 = .ok (.arraylength, 1) := by decide +kernel
theorem dKF_1_3 : decode jdk_52_method_15_code 3 = .ok (.isub, 1) := by decide +kernel
theorem dKF_1_4 : decode jdk_52_method_15_code 4 = .ok (.bipush 31, 2) := by decide +kernel
theorem dKF_1_6 : decode jdk_52_method_15_code 6 = .ok (.iushr, 1) := by decide +kernel
theorem dKF_1_7 : decode jdk_52_method_15_code 7 = .ok (.i2b, 1) := by decide +kernel
theorem dKF_1_8 : decode jdk_52_method_15_code 8 = .ok (.ireturn, 1) := by decide +kernel
theorem ef_rmKF_1 (m : MethodId) (d : Addr) : entryFrame m #[(.ref d), (.int (1 : Int32))] 2 = mkF m 0 #[.val (.ref d), .val (.int (1 : Int32))] [] := by first | exact own_entry rfl | (simp [entryFrame, mkF, argsToLocals, Value.category]; done) | rfl
set_option maxRecDepth 65536 in
set_option maxHeartbeats 40000000 in
theorem rmKF_1 (l : Launch) (Z : State) (a0 : Array Value) (hw : ∀ d ∈ tables_1, d.before a0 Z = true) (d : Addr) (kd : ClassId) (x0 : Int32) (h0 : Heap) (n0 : Nat) (Z0 : n0 ≤ h0.size) (V_d : Arv Z h0 d kd .byte (1 : Int32) [(.int (nar .byte (x0).toInt8.toInt32))] (.int (0 : Int32))) :
    Pays l (⟨"java/lang/StringUTF16", "coderFromArrayLen", "([BI)B"⟩ : MethodName) jdk_52_method_15_code 2 (some .byte) ({ frames := 0, cells := 0, slots := 0, locals := 0 } : Room) Z #[(.ref d), (.int (1 : Int32))] h0 (fun v h L => v = some (.int (0 : Int32)) ∧ Fr n0 L ∧ h = h0) := by
  refine Pays.of (plainFor_of_name pn_java_lang_StringUTF16) ?_
  intro pP eE sS m below methM cC T hx hby hml hret hlk hZ hown hnm eT X
  replace hown : sS.vm.findClass "java/lang/StringUTF16" = some m.cls := hown
  have N0 := Fr.nil n0
  refine Go.cast (ef_rmKF_1 m d) ?_
  refine Go.st (S' := T.setTop (mkF m 1 #[.val (.ref d), .val (.int (1 : Int32))] [(.int (1 : Int32))])) (fun t kt => XS.iloadN X.here hx rfl (hb hby dKF_1_0) rfl kt) ?_
  refine Go.st (S' := T.setTop (mkF m 2 #[.val (.ref d), .val (.int (1 : Int32))] [(.ref d), (.int (1 : Int32))])) (fun t kt => XS.aloadN X.here hx rfl (hb hby dKF_1_1) rfl rfl kt) ?_
  obtain ⟨cl1, Ar1, q1, S1, M1, H1, G1⟩ := id V_d
  refine Go.st (S' := T.setTop (mkF m 3 #[.val (.ref d), .val (.int (1 : Int32))] [(.int (1 : Int32)), (.int (1 : Int32))])) (fun t kt => own_alen X hx hZ eT Ar1 (len_of S1 M1) rfl (hb hby dKF_1_2) t kt) ?_
  refine Go.st (S' := T.setTop (mkF m 4 #[.val (.ref d), .val (.int (1 : Int32))] [(.int (0 : Int32))])) (fun t kt => XS.isub X.here hx rfl (hb hby dKF_1_3) rfl kt) ?_
  refine Go.st (S' := T.setTop (mkF m 6 #[.val (.ref d), .val (.int (1 : Int32))] [(.int (31 : Int32)), (.int (0 : Int32))])) (fun t kt => XT.bipushV X.here hx rfl (31 : Int32) (hb hby dKF_1_4) (by decide) kt) ?_
  refine Go.st (S' := T.setTop (mkF m 7 #[.val (.ref d), .val (.int (1 : Int32))] [(.int (0 : Int32))])) (fun t kt => XT.iushr X.here hx rfl (hb hby dKF_1_6) rfl kt) ?_
  refine Go.st (S' := T.setTop (mkF m 8 #[.val (.ref d), .val (.int (1 : Int32))] [(.int (0 : Int32))])) (fun t kt => XT.i2b X.here hx rfl (hb hby dKF_1_7) rfl kt) ?_
  exact ret_y X hx hlk hret (hb hby dKF_1_8) (by decide) (by decide) (⟨rfl, N0, eT⟩)
theorem dK4_1_0 : decode jdk_42_method_149_code 0 = .ok (.aload_n 0, 1) := by decide +kernel
theorem dK4_1_1 : decode jdk_42_method_149_code 1 = .ok (.invokespecial 1, 3) := by decide +kernel
theorem dK4_1_4 : decode jdk_42_method_149_code 4 = .ok (.iload_n 3, 1) := by decide +kernel
theorem dK4_1_5 : decode jdk_42_method_149_code 5 = .ok (.ifCond .ne 22, 3) := by decide +kernel
theorem dK4_1_27 : decode jdk_42_method_149_code 27 = .ok (.getstatic 38, 3) := by decide +kernel
theorem dK4_1_30 : decode jdk_42_method_149_code 30 = .ok (.ifCond .eq 28, 3) := by decide +kernel
theorem dK4_1_33 : decode jdk_42_method_149_code 33 = .ok (.aload_n 1, 1) := by decide +kernel
theorem dK4_1_34 : decode jdk_42_method_149_code 34 = .ok (.iload_n 2, 1) := by decide +kernel
theorem dK4_1_35 : decode jdk_42_method_149_code 35 = .ok (.iload_n 3, 1) := by decide +kernel
theorem dK4_1_36 : decode jdk_42_method_149_code 36 = .ok (.invokestatic 177, 3) := by decide +kernel
theorem dK4_1_39 : decode jdk_42_method_149_code 39 = .ok (.astore 5, 2) := by decide +kernel
theorem dK4_1_41 : decode jdk_42_method_149_code 41 = .ok (.aload_n 0, 1) := by decide +kernel
theorem dK4_1_42 : decode jdk_42_method_149_code 42 = .ok (.aload 5, 2) := by decide +kernel
theorem dK4_1_44 : decode jdk_42_method_149_code 44 = .ok (.iload_n 3, 1) := by decide +kernel
theorem dK4_1_45 : decode jdk_42_method_149_code 45 = .ok (.invokestatic 47, 3) := by decide +kernel
theorem dK4_1_48 : decode jdk_42_method_149_code 48 = .ok (.putfield 15, 3) := by decide +kernel
theorem dK4_1_51 : decode jdk_42_method_149_code 51 = .ok (.aload_n 0, 1) := by decide +kernel
theorem dK4_1_52 : decode jdk_42_method_149_code 52 = .ok (.aload 5, 2) := by decide +kernel
theorem dK4_1_54 : decode jdk_42_method_149_code 54 = .ok (.putfield 9, 3) := by decide +kernel
theorem dK4_1_57 : decode jdk_42_method_149_code 57 = .ok (.return_, 1) := by decide +kernel
theorem pd___CII__B : parseMethodDescriptor "([CII)[B" = some ⟨[(.array .char), .int, .int], some (.array .byte)⟩ := by decide +kernel
theorem pd___BI_B : parseMethodDescriptor "([BI)B" = some ⟨[(.array .byte), .int], some .byte⟩ := by decide +kernel
theorem pn_java_lang_String : plainName "java/lang/String" = true := by first | (simp [plainName, overriddenIn]; done) | decide +kernel
theorem ef_rmK4_1 (m : MethodId) (a : Addr) (ca : Addr) : entryFrame m #[(.ref a), (.ref ca), (.int (0 : Int32)), (.int (1 : Int32)), .null] 6 = mkF m 0 #[.val (.ref a), .val (.ref ca), .val (.int (0 : Int32)), .val (.int (1 : Int32)), .val .null, .unset] [] := by first | exact own_entry rfl | (simp [entryFrame, mkF, argsToLocals, Value.category]; done) | rfl
set_option maxRecDepth 65536 in
set_option maxHeartbeats 40000000 in
theorem rmK4_1 (l : Launch) (Z : State) (a0 : Array Value) (hw : ∀ d ∈ tables_1, d.before a0 Z = true) (a ca : Addr) (kc : ClassId) (x0 : Int32) (h0 : Heap) (n0 : Nat) (Z0 : n0 ≤ h0.size) (E_a : Exa Z h0 a "java/lang/String") (ha : n0 ≤ a) (hca : ca ≠ a) (F_value : Fld Z h0 a "java/lang/String" "value" "[B" .null) (F_coder : Fld Z h0 a "java/lang/String" "coder" "B" (.int (0 : Int32))) (V_c : Arv Z h0 ca kc .char (1 : Int32) [(.int x0)] (.int (0 : Int32))) (hx0 : ¬ (255 : Int32) < x0) (cs : Int32) (S_cs : Sta Z h0 "java/lang/String" "COMPACT_STRINGS" "Z" (.int cs)) (hcs : ¬ cs = 0) :
    Pays l (⟨"java/lang/String", "<init>", "([CIILjava/lang/Void;)V"⟩ : MethodName) jdk_42_method_149_code 6 none ({ frames := 2, cells := 1, slots := 1, locals := 35 } : Room) Z #[(.ref a), (.ref ca), (.int (0 : Int32)), (.int (1 : Int32)), .null] h0 (fun v h L => ∃ d k, v = none ∧ Fr n0 L ∧ Keep h0 h [a] ∧ h0.size ≤ d ∧ n0 ≤ d ∧ Exa Z h a "java/lang/String" ∧ Fld Z h a "java/lang/String" "value" "[B" (.ref d) ∧ Fld Z h a "java/lang/String" "coder" "B" (.int (0 : Int32)) ∧ Arv Z h d k .byte (1 : Int32) [(.int (nar .byte (x0).toInt8.toInt32))] (.int (0 : Int32))) := by
  refine Pays.of (plainFor_of_name pn_java_lang_String) ?_
  intro pP eE sS m below methM cC T hx hby hml hret hlk hZ hown hnm eT X
  replace hown : sS.vm.findClass "java/lang/String" = some m.cls := hown
  have N0 := Fr.nil n0
  have K0 := Keep.refl h0 [a]
  refine Go.cast (ef_rmK4_1 m a ca) ?_
  refine Go.st (S' := T.setTop (mkF m 1 #[.val (.ref a), .val (.ref ca), .val (.int (0 : Int32)), .val (.int (1 : Int32)), .val .null, .unset] [(.ref a)])) (fun t kt => XS.aloadN X.here hx rfl (hb hby dK4_1_0) rfl rfl kt) ?_
  obtain ⟨T1, X1, e1, st1⟩ := initO X hx hZ hown (hw _ (List.mem_of_getElem? (i := 11) rfl)) (hw _ (List.mem_of_getElem? (i := 12) rfl)) (hw _ (List.mem_of_getElem? (i := 13) rfl)) eT (g := (mkF m 1 #[.val (.ref a), .val (.ref ca), .val (.int (0 : Int32)), .val (.int (1 : Int32)), .val .null, .unset] [(.ref a)])) rfl (by rw [hml]; rfl) rfl (hb hby dK4_1_1) (by decide) (W := 0) (by show 2 * 0 + _ ≤ _; exact Nat.le_of_eq rfl) (by decide)
  refine Go.st (S' := T1.setTop (mkF m 4 #[.val (.ref a), .val (.ref ca), .val (.int (0 : Int32)), .val (.int (1 : Int32)), .val .null, .unset] [])) (fun t kt => st1 t kt) ?_
  refine Go.st (S' := T1.setTop (mkF m 5 #[.val (.ref a), .val (.ref ca), .val (.int (0 : Int32)), .val (.int (1 : Int32)), .val .null, .unset] [(.int (1 : Int32))])) (fun t kt => XS.iloadN X1.here hx rfl (hb hby dK4_1_4) rfl kt) ?_
  refine Go.st (S' := T1.setTop (mkF m 27 #[.val (.ref a), .val (.ref ca), .val (.int (0 : Int32)), .val (.int (1 : Int32)), .val .null, .unset] [])) (fun t kt => XS.ifYes X1.here hx rfl (pc0 := 5) (pc' := 27) rfl (hb hby dK4_1_5) rfl (XT.i0_ne_t (by decide)) (by decide) (by decide) kt) ?_
  obtain ⟨T2, X2, e2, st2⟩ := getS X1 hx hZ (host := "") hown (hw _ (List.mem_of_getElem? (i := 14) rfl)) Via.refl e1 S_cs (g := (mkF m 27 #[.val (.ref a), .val (.ref ca), .val (.int (0 : Int32)), .val (.int (1 : Int32)), .val .null, .unset] [])) rfl (hb hby dK4_1_27)
  refine Go.st (S' := T2.setTop (mkF m 30 #[.val (.ref a), .val (.ref ca), .val (.int (0 : Int32)), .val (.int (1 : Int32)), .val .null, .unset] [(.int cs)])) (fun t kt => st2 t kt) ?_
  refine Go.st (S' := T2.setTop (mkF m 33 #[.val (.ref a), .val (.ref ca), .val (.int (0 : Int32)), .val (.int (1 : Int32)), .val .null, .unset] [])) (fun t kt => XS.ifNo X2.here hx rfl (hb hby dK4_1_30) rfl (XT.i0_eq_f hcs) kt) ?_
  refine Go.st (S' := T2.setTop (mkF m 34 #[.val (.ref a), .val (.ref ca), .val (.int (0 : Int32)), .val (.int (1 : Int32)), .val .null, .unset] [(.ref ca)])) (fun t kt => XS.aloadN X2.here hx rfl (hb hby dK4_1_33) rfl rfl kt) ?_
  refine Go.st (S' := T2.setTop (mkF m 35 #[.val (.ref a), .val (.ref ca), .val (.int (0 : Int32)), .val (.int (1 : Int32)), .val .null, .unset] [(.int (0 : Int32)), (.ref ca)])) (fun t kt => XS.iloadN X2.here hx rfl (hb hby dK4_1_34) rfl kt) ?_
  refine Go.st (S' := T2.setTop (mkF m 36 #[.val (.ref a), .val (.ref ca), .val (.int (0 : Int32)), .val (.int (1 : Int32)), .val .null, .unset] [(.int (1 : Int32)), (.int (0 : Int32)), (.ref ca)])) (fun t kt => XS.iloadN X2.here hx rfl (hb hby dK4_1_35) rfl kt) ?_
  refine Go.stat X2 hx hZ hown (hw _ (List.mem_of_getElem? (i := 15) rfl)) (hw _ (List.mem_of_getElem? (i := 16) rfl)) (hw _ (List.mem_of_getElem? (i := 17) rfl)) (hw _ (List.mem_of_getElem? (i := 18) rfl)) (by decide) (argsL := [(.ref ca), (.int (0 : Int32)), (.int (1 : Int32))]) (rest := []) (rmK3_1 l Z a0 hw ca kc x0 h0 n0 Z0 V_c hx0) e2 rfl (by rw [hml]; rfl) pd___CII__B rfl (hb hby dK4_1_36) 0 (Nat.le_refl _) (by decide) (by decide) (by decide) (by decide) ?_
  intro v3 T3 L3 X3 hQ3
  obtain ⟨d3, k3, hv3, N3', K3', y3_0, u3_0, f3_0⟩ := hQ3
  subst hv3
  have N3 := Fr.app N0 N3'
  have Z3 : n0 ≤ T3.heap.size := Nat.le_trans Z0 K3'.1
  have eh3 : T3.heap = T3.heap := rfl
  have sz_d3 : h0.size ≤ d3 := Nat.le_trans K0.1 y3_0
  have K3 := Keep.trans K0 K3' all0
  show Go pP eE below _ (T3.setTop (mkF m 39 #[.val (.ref a), .val (.ref ca), .val (.int (0 : Int32)), .val (.int (1 : Int32)), .val .null, .unset] [(.ref d3)]))
  refine Go.st (S' := T3.setTop (mkF m 41 #[.val (.ref a), .val (.ref ca), .val (.int (0 : Int32)), .val (.int (1 : Int32)), .val .null, .val (.ref d3)] [])) (fun t kt => XS.astore X3.here hx rfl (hb hby dK4_1_39) rfl rfl rfl kt) ?_
  refine Go.st (S' := T3.setTop (mkF m 42 #[.val (.ref a), .val (.ref ca), .val (.int (0 : Int32)), .val (.int (1 : Int32)), .val .null, .val (.ref d3)] [(.ref a)])) (fun t kt => XS.aloadN X3.here hx rfl (hb hby dK4_1_41) rfl rfl kt) ?_
  refine Go.st (S' := T3.setTop (mkF m 44 #[.val (.ref a), .val (.ref ca), .val (.int (0 : Int32)), .val (.int (1 : Int32)), .val .null, .val (.ref d3)] [(.ref d3), (.ref a)])) (fun t kt => XS.aload X3.here hx rfl (hb hby dK4_1_42) rfl rfl kt) ?_
  refine Go.st (S' := T3.setTop (mkF m 45 #[.val (.ref a), .val (.ref ca), .val (.int (0 : Int32)), .val (.int (1 : Int32)), .val .null, .val (.ref d3)] [(.int (1 : Int32)), (.ref d3), (.ref a)])) (fun t kt => XS.iloadN X3.here hx rfl (hb hby dK4_1_44) rfl kt) ?_
  refine Go.stat X3 hx hZ hown (hw _ (List.mem_of_getElem? (i := 23) rfl)) (hw _ (List.mem_of_getElem? (i := 24) rfl)) (hw _ (List.mem_of_getElem? (i := 17) rfl)) (hw _ (List.mem_of_getElem? (i := 25) rfl)) (by decide) (argsL := [(.ref d3), (.int (1 : Int32))]) (rest := [(.ref a)]) (rmKF_1 l Z a0 hw d3 k3 x0 T3.heap n0 Z3 f3_0) eh3 rfl (by rw [hml]; rfl) pd___BI_B rfl (hb hby dK4_1_45) 1 (Nat.le_refl _) (by decide) (by decide) (by decide) (by decide) ?_
  intro v4 T4 L4 X4 hQ4
  obtain ⟨hv4, N4', e4⟩ := hQ4
  subst hv4
  have N4 := Fr.app N3 N4'
  show Go pP eE below _ (T4.setTop (mkF m 48 #[.val (.ref a), .val (.ref ca), .val (.int (0 : Int32)), .val (.int (1 : Int32)), .val .null, .val (.ref d3)] [(.int (0 : Int32)), (.ref a)]))
  have f5 := (F_coder.keep K3' nin0)
  have f6 := (E_a.keep K3')
  obtain ⟨T7, h7, X7, e7, W7, st7⟩ := putF X4 hx hZ hown (host := "") (Or.inl (hw _ (List.mem_of_getElem? (i := 26) rfl))) Via.refl e4 f5 f6 (Or.inr ⟨(hw _ (List.mem_of_getElem? (i := 27) rfl)), rfl, hnm⟩) (hw _ (List.mem_of_getElem? (i := 1) rfl)) (ty := .byte) (by decide) rfl rfl (g := (mkF m 48 #[.val (.ref a), .val (.ref ca), .val (.int (0 : Int32)), .val (.int (1 : Int32)), .val .null, .val (.ref d3)] [(.int (0 : Int32)), (.ref a)])) rfl rfl (hb hby dK4_1_48)
  have F7 := Fld.same W7 f5
  have N7 := Fr.snoc X7 N4 ha
  have Z7 : n0 ≤ h7.size := by rw [Wr.size W7]; exact Z3
  have K7 := Keep.wr K3 W7 (Or.inl (List.mem_of_getElem? (i := 0) rfl))
  refine Go.st (S' := T7.setTop (mkF m 51 #[.val (.ref a), .val (.ref ca), .val (.int (0 : Int32)), .val (.int (1 : Int32)), .val .null, .val (.ref d3)] [])) (fun t kt => st7 t kt) ?_
  refine Go.st (S' := T7.setTop (mkF m 52 #[.val (.ref a), .val (.ref ca), .val (.int (0 : Int32)), .val (.int (1 : Int32)), .val .null, .val (.ref d3)] [(.ref a)])) (fun t kt => XS.aloadN X7.here hx rfl (hb hby dK4_1_51) rfl rfl kt) ?_
  refine Go.st (S' := T7.setTop (mkF m 54 #[.val (.ref a), .val (.ref ca), .val (.int (0 : Int32)), .val (.int (1 : Int32)), .val .null, .val (.ref d3)] [(.ref d3), (.ref a)])) (fun t kt => XS.aload X7.here hx rfl (hb hby dK4_1_52) rfl rfl kt) ?_
  have f8 := (Fld.other W7 (F_value.keep K3' nin0) (Or.inr (slot_ne (Or.inr (hw _ (List.mem_of_getElem? (i := 29) rfl))) (Or.inr (hw _ (List.mem_of_getElem? (i := 27) rfl))) (by decide) (t := (.array .byte)) (t' := .byte) (by decide) (by decide))))
  have f9 := (Exa.wr W7 f6)
  obtain ⟨T10, h10, X10, e10, W10, st10⟩ := putF X7 hx hZ hown (host := "") (Or.inl (hw _ (List.mem_of_getElem? (i := 28) rfl))) Via.refl e7 f8 f9 (Or.inr ⟨(hw _ (List.mem_of_getElem? (i := 29) rfl)), rfl, hnm⟩) (hw _ (List.mem_of_getElem? (i := 1) rfl)) (ty := (.array .byte)) (by decide) rfl rfl (g := (mkF m 54 #[.val (.ref a), .val (.ref ca), .val (.int (0 : Int32)), .val (.int (1 : Int32)), .val .null, .val (.ref d3)] [(.ref d3), (.ref a)])) rfl rfl (hb hby dK4_1_54)
  have F10 := Fld.same W10 f8
  have N10 := Fr.snoc X10 N7 ha
  have Z10 : n0 ≤ h10.size := by rw [Wr.size W10]; exact Z7
  have K10 := Keep.wr K7 W10 (Or.inl (List.mem_of_getElem? (i := 0) rfl))
  refine Go.st (S' := T10.setTop (mkF m 57 #[.val (.ref a), .val (.ref ca), .val (.int (0 : Int32)), .val (.int (1 : Int32)), .val .null, .val (.ref d3)] [])) (fun t kt => st10 t kt) ?_
  have f11 := (Exa.wr W10 f9)
  have f12 := (Fld.other W10 F7 (Or.inr (slot_ne (Or.inr (hw _ (List.mem_of_getElem? (i := 27) rfl))) (Or.inr (hw _ (List.mem_of_getElem? (i := 29) rfl))) (by decide) (t := .byte) (t' := (.array .byte)) (by decide) (by decide))))
  have f13 := ((f3_0.other W7 (Ne.symm (Nat.ne_of_lt (Nat.lt_of_lt_of_le E_a.lt y3_0)))).other W10 (Ne.symm (Nat.ne_of_lt (Nat.lt_of_lt_of_le E_a.lt y3_0))))
  exact ret_v X10 hx hlk hret (hb hby dK4_1_57) (by decide) (by decide) (by rw [e10]; exact ⟨_, _, rfl, N10, K10, sz_d3, u3_0, f11, F10, f12, f13⟩)
theorem dK1_1_0 : decode jdk_42_method_3_code 0 = .ok (.aload_n 0, 1) := by decide +kernel
theorem dK1_1_1 : decode jdk_42_method_3_code 1 = .ok (.aload_n 1, 1) := by decide +kernel
theorem dK1_1_2 : decode jdk_42_method_3_code 2 = .ok (.iconst 0, 1) := by decide +kernel
theorem dK1_1_3 : decode jdk_42_method_3_code 3 = .ok (.aload_n 1, 1) := by decide +kernel
theorem dK1_1_4 : decode jdk_42_method_3_code 4 = .ok (.arraylength, 1) := by decide +kernel
theorem dK1_1_5 : decode jdk_42_method_3_code 5 = .ok (.aconst_null, 1) := by decide +kernel
theorem dK1_1_6 : decode jdk_42_method_3_code 6 = .ok (.invokespecial 27, 3) := by decide +kernel
theorem dK1_1_9 : decode jdk_42_method_3_code 9 = .ok (.return_, 1) := by decide +kernel
theorem pd___CIILjava_lang_Void__V : parseMethodDescriptor "([CIILjava/lang/Void;)V" = some ⟨[(.array .char), .int, .int, (.object "java/lang/Void")], none⟩ := by decide +kernel
theorem ef_rmK1_1 (m : MethodId) (a : Addr) (ca : Addr) : entryFrame m #[(.ref a), (.ref ca)] 2 = mkF m 0 #[.val (.ref a), .val (.ref ca)] [] := by first | exact own_entry rfl | (simp [entryFrame, mkF, argsToLocals, Value.category]; done) | rfl
set_option maxRecDepth 65536 in
set_option maxHeartbeats 40000000 in
theorem rmK1_1 (l : Launch) (Z : State) (a0 : Array Value) (hw : ∀ d ∈ tables_1, d.before a0 Z = true) (a ca : Addr) (kc : ClassId) (x0 : Int32) (h0 : Heap) (n0 : Nat) (Z0 : n0 ≤ h0.size) (E_a : Exa Z h0 a "java/lang/String") (ha : n0 ≤ a) (hca : ca ≠ a) (F_value : Fld Z h0 a "java/lang/String" "value" "[B" .null) (F_coder : Fld Z h0 a "java/lang/String" "coder" "B" (.int (0 : Int32))) (V_c : Arv Z h0 ca kc .char (1 : Int32) [(.int x0)] (.int (0 : Int32))) (hx0 : ¬ (255 : Int32) < x0) (cs : Int32) (S_cs : Sta Z h0 "java/lang/String" "COMPACT_STRINGS" "Z" (.int cs)) (hcs : ¬ cs = 0) :
    Pays l (⟨"java/lang/String", "<init>", "([C)V"⟩ : MethodName) jdk_42_method_3_code 2 none ({ frames := 3, cells := 1, slots := 1, locals := 52 } : Room) Z #[(.ref a), (.ref ca)] h0 (fun v h L => ∃ d k, v = none ∧ Fr n0 L ∧ Keep h0 h [a] ∧ h0.size ≤ d ∧ n0 ≤ d ∧ Exa Z h a "java/lang/String" ∧ Fld Z h a "java/lang/String" "value" "[B" (.ref d) ∧ Fld Z h a "java/lang/String" "coder" "B" (.int (0 : Int32)) ∧ Arv Z h d k .byte (1 : Int32) [(.int (nar .byte (x0).toInt8.toInt32))] (.int (0 : Int32))) := by
  refine Pays.of (plainFor_of_name pn_java_lang_String) ?_
  intro pP eE sS m below methM cC T hx hby hml hret hlk hZ hown hnm eT X
  replace hown : sS.vm.findClass "java/lang/String" = some m.cls := hown
  have N0 := Fr.nil n0
  have K0 := Keep.refl h0 [a]
  refine Go.cast (ef_rmK1_1 m a ca) ?_
  refine Go.st (S' := T.setTop (mkF m 1 #[.val (.ref a), .val (.ref ca)] [(.ref a)])) (fun t kt => XS.aloadN X.here hx rfl (hb hby dK1_1_0) rfl rfl kt) ?_
  refine Go.st (S' := T.setTop (mkF m 2 #[.val (.ref a), .val (.ref ca)] [(.ref ca), (.ref a)])) (fun t kt => XS.aloadN X.here hx rfl (hb hby dK1_1_1) rfl rfl kt) ?_
  refine Go.st (S' := T.setTop (mkF m 3 #[.val (.ref a), .val (.ref ca)] [(.int (0 : Int32)), (.ref ca), (.ref a)])) (fun t kt => XS.iconst X.here hx rfl (hb hby dK1_1_2) kt) ?_
  refine Go.st (S' := T.setTop (mkF m 4 #[.val (.ref a), .val (.ref ca)] [(.ref ca), (.int (0 : Int32)), (.ref ca), (.ref a)])) (fun t kt => XS.aloadN X.here hx rfl (hb hby dK1_1_3) rfl rfl kt) ?_
  obtain ⟨cl1, Ar1, q1, S1, M1, H1, G1⟩ := id V_c
  refine Go.st (S' := T.setTop (mkF m 5 #[.val (.ref a), .val (.ref ca)] [(.int (1 : Int32)), (.int (0 : Int32)), (.ref ca), (.ref a)])) (fun t kt => own_alen X hx hZ eT Ar1 (len_of S1 M1) rfl (hb hby dK1_1_4) t kt) ?_
  refine Go.st (S' := T.setTop (mkF m 6 #[.val (.ref a), .val (.ref ca)] [.null, (.int (1 : Int32)), (.int (0 : Int32)), (.ref ca), (.ref a)])) (fun t kt => XS.aconstNull X.here hx rfl (hb hby dK1_1_5) kt) ?_
  refine Go.init X hx hZ rfl hown (hw _ (List.mem_of_getElem? (i := 7) rfl)) (hw _ (List.mem_of_getElem? (i := 8) rfl)) (hw _ (List.mem_of_getElem? (i := 10) rfl)) (hw _ (List.mem_of_getElem? (i := 2) rfl)) (by decide) (b := a) (argsL := [(.ref ca), (.int (0 : Int32)), (.int (1 : Int32)), .null]) (rest := []) (rmK4_1 l Z a0 hw a ca kc x0 h0 n0 Z0 E_a ha hca F_value F_coder V_c hx0 cs S_cs hcs) eT rfl (by rw [hml]; rfl) pd___CIILjava_lang_Void__V rfl (hb hby dK1_1_6) 0 (Nat.le_refl _) (by decide) (by decide) (by decide) (by decide) ?_
  intro v2 T2 L2 X2 hQ2
  obtain ⟨d2, k2, hv2, N2', K2', y2_0, u2_0, f2_0, f2_1, f2_2, f2_3⟩ := hQ2
  subst hv2
  have N2 := Fr.app N0 N2'
  have Z2 : n0 ≤ T2.heap.size := Nat.le_trans Z0 K2'.1
  have eh2 : T2.heap = T2.heap := rfl
  have sz_d2 : h0.size ≤ d2 := Nat.le_trans K0.1 y2_0
  have K2 := Keep.trans K0 K2' (allS (Or.inl (List.mem_of_getElem? (i := 0) rfl)) all0)
  show Go pP eE below _ (T2.setTop (mkF m 9 #[.val (.ref a), .val (.ref ca)] []))
  exact ret_v X2 hx hlk hret (hb hby dK1_1_9) (by decide) (by decide) (by rw [eh2]; exact ⟨_, _, rfl, N2, K2, sz_d2, u2_0, f2_0, f2_1, f2_2, f2_3⟩)
theorem dK5_2_0 : decode jdk_52_method_21_code 0 = .ok (.iconst 0, 1) := by decide +kernel
theorem dK5_2_1 : decode jdk_52_method_21_code 1 = .ok (.istore 5, 2) := by decide +kernel
theorem dK5_2_3 : decode jdk_52_method_21_code 3 = .ok (.iload 5, 2) := by decide +kernel
theorem dK5_2_5 : decode jdk_52_method_21_code 5 = .ok (.iload 4, 2) := by decide +kernel
theorem dK5_2_7 : decode jdk_52_method_21_code 7 = .ok (.if_icmp .ge 37, 3) := by decide +kernel
theorem dK5_2_10 : decode jdk_52_method_21_code 10 = .ok (.aload_n 0, 1) := by decide +kernel
theorem dK5_2_11 : decode jdk_52_method_21_code 11 = .ok (.iload_n 1, 1) := by decide +kernel
theorem dK5_2_12 : decode jdk_52_method_21_code 12 = .ok (.caload, 1) := by decide +kernel
theorem dK5_2_13 : decode jdk_52_method_21_code 13 = .ok (.istore 6, 2) := by decide +kernel
theorem dK5_2_15 : decode jdk_52_method_21_code 15 = .ok (.iload 6, 2) := by decide +kernel
theorem dK5_2_17 : decode jdk_52_method_21_code 17 = .ok (.sipush 255, 3) := by decide +kernel
theorem dK5_2_20 : decode jdk_52_method_21_code 20 = .ok (.if_icmp .le 6, 3) := by decide +kernel
theorem dK5_2_26 : decode jdk_52_method_21_code 26 = .ok (.aload_n 2, 1) := by decide +kernel
theorem dK5_2_27 : decode jdk_52_method_21_code 27 = .ok (.iload_n 3, 1) := by decide +kernel
theorem dK5_2_28 : decode jdk_52_method_21_code 28 = .ok (.iload 6, 2) := by decide +kernel
theorem dK5_2_30 : decode jdk_52_method_21_code 30 = .ok (.i2b, 1) := by decide +kernel
theorem dK5_2_31 : decode jdk_52_method_21_code 31 = .ok (.bastore, 1) := by decide +kernel
theorem dK5_2_32 : decode jdk_52_method_21_code 32 = .ok (.iinc 1 1, 3) := by decide +kernel
theorem dK5_2_35 : decode jdk_52_method_21_code 35 = .ok (.iinc 3 1, 3) := by decide +kernel
theorem dK5_2_38 : decode jdk_52_method_21_code 38 = .ok (.iinc 5 1, 3) := by decide +kernel
theorem dK5_2_41 : decode jdk_52_method_21_code 41 = .ok (.goto (-38), 3) := by decide +kernel
theorem dK5_2_44 : decode jdk_52_method_21_code 44 = .ok (.iload 4, 2) := by decide +kernel
theorem dK5_2_46 : decode jdk_52_method_21_code 46 = .ok (.ireturn, 1) := by decide +kernel
theorem ef_rmK5_2 (m : MethodId) (ca : Addr) (d : Addr) : entryFrame m #[(.ref ca), (.int (0 : Int32)), (.ref d), (.int (0 : Int32)), (.int (2 : Int32))] 7 = mkF m 0 #[.val (.ref ca), .val (.int (0 : Int32)), .val (.ref d), .val (.int (0 : Int32)), .val (.int (2 : Int32)), .unset, .unset] [] := by first | exact own_entry rfl | (simp [entryFrame, mkF, argsToLocals, Value.category]; done) | rfl
set_option maxRecDepth 65536 in
set_option maxHeartbeats 40000000 in
theorem rmK5_2 (l : Launch) (Z : State) (a0 : Array Value) (hw : ∀ d ∈ tables_1, d.before a0 Z = true) (ca d : Addr) (kc kd : ClassId) (x0 x1 : Int32) (h0 : Heap) (n0 : Nat) (Z0 : n0 ≤ h0.size) (V_c : Arv Z h0 ca kc .char (2 : Int32) [(.int x0), (.int x1)] (.int (0 : Int32))) (V_d : Arv Z h0 d kd .byte (2 : Int32) [(.int (0 : Int32)), (.int (0 : Int32))] (.int (0 : Int32))) (hcd : ca ≠ d) (hd : n0 ≤ d) (hx0 : ¬ (255 : Int32) < x0) (hx1 : ¬ (255 : Int32) < x1) :
    Pays l (⟨"java/lang/StringUTF16", "compress", "([CI[BII)I"⟩ : MethodName) jdk_52_method_21_code 7 (some .int) ({ frames := 0, cells := 0, slots := 0, locals := 0 } : Room) Z #[(.ref ca), (.int (0 : Int32)), (.ref d), (.int (0 : Int32)), (.int (2 : Int32))] h0 (fun v h L => v = some (.int (2 : Int32)) ∧ Fr n0 L ∧ Keep h0 h [d] ∧ Arv Z h d kd .byte (2 : Int32) [(.int (nar .byte (x0).toInt8.toInt32)), (.int (nar .byte (x1).toInt8.toInt32))] (.int (0 : Int32))) := by
  refine Pays.of (plainFor_of_name pn_java_lang_StringUTF16) ?_
  intro pP eE sS m below methM cC T hx hby hml hret hlk hZ hown hnm eT X
  replace hown : sS.vm.findClass "java/lang/StringUTF16" = some m.cls := hown
  have N0 := Fr.nil n0
  have K0 := Keep.refl h0 [d]
  refine Go.cast (ef_rmK5_2 m ca d) ?_
  refine Go.st (S' := T.setTop (mkF m 1 #[.val (.ref ca), .val (.int (0 : Int32)), .val (.ref d), .val (.int (0 : Int32)), .val (.int (2 : Int32)), .unset, .unset] [(.int (0 : Int32))])) (fun t kt => XS.iconst X.here hx rfl (hb hby dK5_2_0) kt) ?_
  refine Go.st (S' := T.setTop (mkF m 3 #[.val (.ref ca), .val (.int (0 : Int32)), .val (.ref d), .val (.int (0 : Int32)), .val (.int (2 : Int32)), .val (.int (0 : Int32)), .unset] [])) (fun t kt => XS.istore X.here hx rfl (hb hby dK5_2_1) rfl rfl kt) ?_
  refine Go.st (S' := T.setTop (mkF m 5 #[.val (.ref ca), .val (.int (0 : Int32)), .val (.ref d), .val (.int (0 : Int32)), .val (.int (2 : Int32)), .val (.int (0 : Int32)), .unset] [(.int (0 : Int32))])) (fun t kt => XS.iload X.here hx rfl (hb hby dK5_2_3) rfl kt) ?_
  refine Go.st (S' := T.setTop (mkF m 7 #[.val (.ref ca), .val (.int (0 : Int32)), .val (.ref d), .val (.int (0 : Int32)), .val (.int (2 : Int32)), .val (.int (0 : Int32)), .unset] [(.int (2 : Int32)), (.int (0 : Int32))])) (fun t kt => XS.iload X.here hx rfl (hb hby dK5_2_5) rfl kt) ?_
  refine Go.st (S' := T.setTop (mkF m 10 #[.val (.ref ca), .val (.int (0 : Int32)), .val (.ref d), .val (.int (0 : Int32)), .val (.int (2 : Int32)), .val (.int (0 : Int32)), .unset] [])) (fun t kt => XS.icmpNo X.here hx rfl (hb hby dK5_2_7) rfl (XT.ii_ge_f (by decide)) kt) ?_
  refine Go.st (S' := T.setTop (mkF m 11 #[.val (.ref ca), .val (.int (0 : Int32)), .val (.ref d), .val (.int (0 : Int32)), .val (.int (2 : Int32)), .val (.int (0 : Int32)), .unset] [(.ref ca)])) (fun t kt => XS.aloadN X.here hx rfl (hb hby dK5_2_10) rfl rfl kt) ?_
  refine Go.st (S' := T.setTop (mkF m 12 #[.val (.ref ca), .val (.int (0 : Int32)), .val (.ref d), .val (.int (0 : Int32)), .val (.int (2 : Int32)), .val (.int (0 : Int32)), .unset] [(.int (0 : Int32)), (.ref ca)])) (fun t kt => XS.iloadN X.here hx rfl (hb hby dK5_2_11) rfl kt) ?_
  obtain ⟨cl1, Ar1, q1, S1, M1, H1, G1⟩ := id V_c
  refine Go.st (S' := T.setTop (mkF m 13 #[.val (.ref ca), .val (.int (0 : Int32)), .val (.ref d), .val (.int (0 : Int32)), .val (.int (2 : Int32)), .val (.int (0 : Int32)), .unset] [(.int x0)])) (fun t kt => X.caload hx (j := (0 : Int32)) (v := (.int x0)) (by rw [eT]; exact Ar1.1) (State.isArrayOf_alike hZ.alike Ar1.2.1) Ar1.2.2 (inb_of S1 ⟨by decide, by decide⟩) (Has.at H1 (inb_of S1 ⟨by decide, by decide⟩) rfl) (g := (mkF m 12 #[.val (.ref ca), .val (.int (0 : Int32)), .val (.ref d), .val (.int (0 : Int32)), .val (.int (2 : Int32)), .val (.int (0 : Int32)), .unset] [(.int (0 : Int32)), (.ref ca)])) rfl rfl (hb hby dK5_2_12) t kt) ?_
  refine Go.st (S' := T.setTop (mkF m 15 #[.val (.ref ca), .val (.int (0 : Int32)), .val (.ref d), .val (.int (0 : Int32)), .val (.int (2 : Int32)), .val (.int (0 : Int32)), .val (.int x0)] [])) (fun t kt => XS.istore X.here hx rfl (hb hby dK5_2_13) rfl rfl kt) ?_
  refine Go.st (S' := T.setTop (mkF m 17 #[.val (.ref ca), .val (.int (0 : Int32)), .val (.ref d), .val (.int (0 : Int32)), .val (.int (2 : Int32)), .val (.int (0 : Int32)), .val (.int x0)] [(.int x0)])) (fun t kt => XS.iload X.here hx rfl (hb hby dK5_2_15) rfl kt) ?_
  refine Go.st (S' := T.setTop (mkF m 20 #[.val (.ref ca), .val (.int (0 : Int32)), .val (.ref d), .val (.int (0 : Int32)), .val (.int (2 : Int32)), .val (.int (0 : Int32)), .val (.int x0)] [(.int (255 : Int32)), (.int x0)])) (fun t kt => XT.sipushV X.here hx rfl (255 : Int32) (hb hby dK5_2_17) (by decide) kt) ?_
  refine Go.st (S' := T.setTop (mkF m 26 #[.val (.ref ca), .val (.int (0 : Int32)), .val (.ref d), .val (.int (0 : Int32)), .val (.int (2 : Int32)), .val (.int (0 : Int32)), .val (.int x0)] [])) (fun t kt => XS.icmpYes X.here hx rfl (pc0 := 20) (pc' := 26) rfl (hb hby dK5_2_20) rfl (XT.ii_le_t hx0) (by decide) (by decide) kt) ?_
  refine Go.st (S' := T.setTop (mkF m 27 #[.val (.ref ca), .val (.int (0 : Int32)), .val (.ref d), .val (.int (0 : Int32)), .val (.int (2 : Int32)), .val (.int (0 : Int32)), .val (.int x0)] [(.ref d)])) (fun t kt => XS.aloadN X.here hx rfl (hb hby dK5_2_26) rfl rfl kt) ?_
  refine Go.st (S' := T.setTop (mkF m 28 #[.val (.ref ca), .val (.int (0 : Int32)), .val (.ref d), .val (.int (0 : Int32)), .val (.int (2 : Int32)), .val (.int (0 : Int32)), .val (.int x0)] [(.int (0 : Int32)), (.ref d)])) (fun t kt => XS.iloadN X.here hx rfl (hb hby dK5_2_27) rfl kt) ?_
  refine Go.st (S' := T.setTop (mkF m 30 #[.val (.ref ca), .val (.int (0 : Int32)), .val (.ref d), .val (.int (0 : Int32)), .val (.int (2 : Int32)), .val (.int (0 : Int32)), .val (.int x0)] [(.int x0), (.int (0 : Int32)), (.ref d)])) (fun t kt => XS.iload X.here hx rfl (hb hby dK5_2_28) rfl kt) ?_
  refine Go.st (S' := T.setTop (mkF m 31 #[.val (.ref ca), .val (.int (0 : Int32)), .val (.ref d), .val (.int (0 : Int32)), .val (.int (2 : Int32)), .val (.int (0 : Int32)), .val (.int x0)] [(.int (x0).toInt8.toInt32), (.int (0 : Int32)), (.ref d)])) (fun t kt => XT.i2b X.here hx rfl (hb hby dK5_2_30) rfl kt) ?_
  obtain ⟨cl2, Ar2, q2, S2, M2, H2, G2⟩ := id V_d
  obtain ⟨T2, h2, X2, e2, W2, st2⟩ := stB X hx hZ eT Ar2 (j := (0 : Int32)) (inb_of S2 ⟨by decide, by decide⟩)  (g := (mkF m 31 #[.val (.ref ca), .val (.int (0 : Int32)), .val (.ref d), .val (.int (0 : Int32)), .val (.int (2 : Int32)), .val (.int (0 : Int32)), .val (.int x0)] [(.int (x0).toInt8.toInt32), (.int (0 : Int32)), (.ref d)])) rfl rfl (hb hby dK5_2_31)
  have V2 : Arv Z h2 d kd .byte (2 : Int32) [(.int (nar .byte (x0).toInt8.toInt32)), (.int (0 : Int32))] (.int (0 : Int32)) := Arv.set Ar2 q2 S2 M2 H2 G2 (fits_nar_byte _) W2 0 rfl (Nat.le_of_ble_eq_true rfl)
  have N2 := Fr.snoc X2 N0 hd
  have Z2 : n0 ≤ h2.size := by rw [Wr.size W2]; exact Z0
  have K2 := Keep.wr K0 W2 (Or.inl (List.mem_of_getElem? (i := 0) rfl))
  refine Go.st (S' := T2.setTop (mkF m 32 #[.val (.ref ca), .val (.int (0 : Int32)), .val (.ref d), .val (.int (0 : Int32)), .val (.int (2 : Int32)), .val (.int (0 : Int32)), .val (.int x0)] [])) (fun t kt => st2 t kt) ?_
  refine Go.st (S' := T2.setTop (mkF m 35 #[.val (.ref ca), .val (.int (1 : Int32)), .val (.ref d), .val (.int (0 : Int32)), .val (.int (2 : Int32)), .val (.int (0 : Int32)), .val (.int x0)] [])) (fun t kt => XT.iincV X2.here hx rfl (1 : Int32) (hb hby dK5_2_32) (by decide) rfl rfl kt) ?_
  refine Go.st (S' := T2.setTop (mkF m 38 #[.val (.ref ca), .val (.int (1 : Int32)), .val (.ref d), .val (.int (1 : Int32)), .val (.int (2 : Int32)), .val (.int (0 : Int32)), .val (.int x0)] [])) (fun t kt => XT.iincV X2.here hx rfl (1 : Int32) (hb hby dK5_2_35) (by decide) rfl rfl kt) ?_
  refine Go.st (S' := T2.setTop (mkF m 41 #[.val (.ref ca), .val (.int (1 : Int32)), .val (.ref d), .val (.int (1 : Int32)), .val (.int (2 : Int32)), .val (.int (1 : Int32)), .val (.int x0)] [])) (fun t kt => XT.iincV X2.here hx rfl (1 : Int32) (hb hby dK5_2_38) (by decide) rfl rfl kt) ?_
  refine Go.st (S' := T2.setTop (mkF m 3 #[.val (.ref ca), .val (.int (1 : Int32)), .val (.ref d), .val (.int (1 : Int32)), .val (.int (2 : Int32)), .val (.int (1 : Int32)), .val (.int x0)] [])) (fun t kt => XS.goto X2.here hx rfl (pc0 := 41) (pc' := 3) rfl (hb hby dK5_2_41) (by decide) (by decide) kt) ?_
  refine Go.st (S' := T2.setTop (mkF m 5 #[.val (.ref ca), .val (.int (1 : Int32)), .val (.ref d), .val (.int (1 : Int32)), .val (.int (2 : Int32)), .val (.int (1 : Int32)), .val (.int x0)] [(.int (1 : Int32))])) (fun t kt => XS.iload X2.here hx rfl (hb hby dK5_2_3) rfl kt) ?_
  refine Go.st (S' := T2.setTop (mkF m 7 #[.val (.ref ca), .val (.int (1 : Int32)), .val (.ref d), .val (.int (1 : Int32)), .val (.int (2 : Int32)), .val (.int (1 : Int32)), .val (.int x0)] [(.int (2 : Int32)), (.int (1 : Int32))])) (fun t kt => XS.iload X2.here hx rfl (hb hby dK5_2_5) rfl kt) ?_
  refine Go.st (S' := T2.setTop (mkF m 10 #[.val (.ref ca), .val (.int (1 : Int32)), .val (.ref d), .val (.int (1 : Int32)), .val (.int (2 : Int32)), .val (.int (1 : Int32)), .val (.int x0)] [])) (fun t kt => XS.icmpNo X2.here hx rfl (hb hby dK5_2_7) rfl (XT.ii_ge_f (by decide)) kt) ?_
  refine Go.st (S' := T2.setTop (mkF m 11 #[.val (.ref ca), .val (.int (1 : Int32)), .val (.ref d), .val (.int (1 : Int32)), .val (.int (2 : Int32)), .val (.int (1 : Int32)), .val (.int x0)] [(.ref ca)])) (fun t kt => XS.aloadN X2.here hx rfl (hb hby dK5_2_10) rfl rfl kt) ?_
  refine Go.st (S' := T2.setTop (mkF m 12 #[.val (.ref ca), .val (.int (1 : Int32)), .val (.ref d), .val (.int (1 : Int32)), .val (.int (2 : Int32)), .val (.int (1 : Int32)), .val (.int x0)] [(.int (1 : Int32)), (.ref ca)])) (fun t kt => XS.iloadN X2.here hx rfl (hb hby dK5_2_11) rfl kt) ?_
  have f4 := (V_c.other W2 hcd)
  obtain ⟨cl3, Ar3, q3, S3, M3, H3, G3⟩ := id f4
  refine Go.st (S' := T2.setTop (mkF m 13 #[.val (.ref ca), .val (.int (1 : Int32)), .val (.ref d), .val (.int (1 : Int32)), .val (.int (2 : Int32)), .val (.int (1 : Int32)), .val (.int x0)] [(.int x1)])) (fun t kt => X2.caload hx (j := (1 : Int32)) (v := (.int x1)) (by rw [e2]; exact Ar3.1) (State.isArrayOf_alike hZ.alike Ar3.2.1) Ar3.2.2 (inb_of S3 ⟨by decide, by decide⟩) (Has.at H3 (inb_of S3 ⟨by decide, by decide⟩) rfl) (g := (mkF m 12 #[.val (.ref ca), .val (.int (1 : Int32)), .val (.ref d), .val (.int (1 : Int32)), .val (.int (2 : Int32)), .val (.int (1 : Int32)), .val (.int x0)] [(.int (1 : Int32)), (.ref ca)])) rfl rfl (hb hby dK5_2_12) t kt) ?_
  refine Go.st (S' := T2.setTop (mkF m 15 #[.val (.ref ca), .val (.int (1 : Int32)), .val (.ref d), .val (.int (1 : Int32)), .val (.int (2 : Int32)), .val (.int (1 : Int32)), .val (.int x1)] [])) (fun t kt => XS.istore X2.here hx rfl (hb hby dK5_2_13) rfl rfl kt) ?_
  refine Go.st (S' := T2.setTop (mkF m 17 #[.val (.ref ca), .val (.int (1 : Int32)), .val (.ref d), .val (.int (1 : Int32)), .val (.int (2 : Int32)), .val (.int (1 : Int32)), .val (.int x1)] [(.int x1)])) (fun t kt => XS.iload X2.here hx rfl (hb hby dK5_2_15) rfl kt) ?_
  refine Go.st (S' := T2.setTop (mkF m 20 #[.val (.ref ca), .val (.int (1 : Int32)), .val (.ref d), .val (.int (1 : Int32)), .val (.int (2 : Int32)), .val (.int (1 : Int32)), .val (.int x1)] [(.int (255 : Int32)), (.int x1)])) (fun t kt => XT.sipushV X2.here hx rfl (255 : Int32) (hb hby dK5_2_17) (by decide) kt) ?_
  refine Go.st (S' := T2.setTop (mkF m 26 #[.val (.ref ca), .val (.int (1 : Int32)), .val (.ref d), .val (.int (1 : Int32)), .val (.int (2 : Int32)), .val (.int (1 : Int32)), .val (.int x1)] [])) (fun t kt => XS.icmpYes X2.here hx rfl (pc0 := 20) (pc' := 26) rfl (hb hby dK5_2_20) rfl (XT.ii_le_t hx1) (by decide) (by decide) kt) ?_
  refine Go.st (S' := T2.setTop (mkF m 27 #[.val (.ref ca), .val (.int (1 : Int32)), .val (.ref d), .val (.int (1 : Int32)), .val (.int (2 : Int32)), .val (.int (1 : Int32)), .val (.int x1)] [(.ref d)])) (fun t kt => XS.aloadN X2.here hx rfl (hb hby dK5_2_26) rfl rfl kt) ?_
  refine Go.st (S' := T2.setTop (mkF m 28 #[.val (.ref ca), .val (.int (1 : Int32)), .val (.ref d), .val (.int (1 : Int32)), .val (.int (2 : Int32)), .val (.int (1 : Int32)), .val (.int x1)] [(.int (1 : Int32)), (.ref d)])) (fun t kt => XS.iloadN X2.here hx rfl (hb hby dK5_2_27) rfl kt) ?_
  refine Go.st (S' := T2.setTop (mkF m 30 #[.val (.ref ca), .val (.int (1 : Int32)), .val (.ref d), .val (.int (1 : Int32)), .val (.int (2 : Int32)), .val (.int (1 : Int32)), .val (.int x1)] [(.int x1), (.int (1 : Int32)), (.ref d)])) (fun t kt => XS.iload X2.here hx rfl (hb hby dK5_2_28) rfl kt) ?_
  refine Go.st (S' := T2.setTop (mkF m 31 #[.val (.ref ca), .val (.int (1 : Int32)), .val (.ref d), .val (.int (1 : Int32)), .val (.int (2 : Int32)), .val (.int (1 : Int32)), .val (.int x1)] [(.int (x1).toInt8.toInt32), (.int (1 : Int32)), (.ref d)])) (fun t kt => XT.i2b X2.here hx rfl (hb hby dK5_2_30) rfl kt) ?_
  obtain ⟨cl5, Ar5, q5, S5, M5, H5, G5⟩ := id V2
  obtain ⟨T5, h5, X5, e5, W5, st5⟩ := stB X2 hx hZ e2 Ar5 (j := (1 : Int32)) (inb_of S5 ⟨by decide, by decide⟩)  (g := (mkF m 31 #[.val (.ref ca), .val (.int (1 : Int32)), .val (.ref d), .val (.int (1 : Int32)), .val (.int (2 : Int32)), .val (.int (1 : Int32)), .val (.int x1)] [(.int (x1).toInt8.toInt32), (.int (1 : Int32)), (.ref d)])) rfl rfl (hb hby dK5_2_31)
  have V5 : Arv Z h5 d kd .byte (2 : Int32) [(.int (nar .byte (x0).toInt8.toInt32)), (.int (nar .byte (x1).toInt8.toInt32))] (.int (0 : Int32)) := Arv.set Ar5 q5 S5 M5 H5 G5 (fits_nar_byte _) W5 1 rfl (Nat.le_of_ble_eq_true rfl)
  have N5 := Fr.snoc X5 N2 hd
  have Z5 : n0 ≤ h5.size := by rw [Wr.size W5]; exact Z2
  have K5 := Keep.wr K2 W5 (Or.inl (List.mem_of_getElem? (i := 0) rfl))
  refine Go.st (S' := T5.setTop (mkF m 32 #[.val (.ref ca), .val (.int (1 : Int32)), .val (.ref d), .val (.int (1 : Int32)), .val (.int (2 : Int32)), .val (.int (1 : Int32)), .val (.int x1)] [])) (fun t kt => st5 t kt) ?_
  refine Go.st (S' := T5.setTop (mkF m 35 #[.val (.ref ca), .val (.int (2 : Int32)), .val (.ref d), .val (.int (1 : Int32)), .val (.int (2 : Int32)), .val (.int (1 : Int32)), .val (.int x1)] [])) (fun t kt => XT.iincV X5.here hx rfl (1 : Int32) (hb hby dK5_2_32) (by decide) rfl rfl kt) ?_
  refine Go.st (S' := T5.setTop (mkF m 38 #[.val (.ref ca), .val (.int (2 : Int32)), .val (.ref d), .val (.int (2 : Int32)), .val (.int (2 : Int32)), .val (.int (1 : Int32)), .val (.int x1)] [])) (fun t kt => XT.iincV X5.here hx rfl (1 : Int32) (hb hby dK5_2_35) (by decide) rfl rfl kt) ?_
  refine Go.st (S' := T5.setTop (mkF m 41 #[.val (.ref ca), .val (.int (2 : Int32)), .val (.ref d), .val (.int (2 : Int32)), .val (.int (2 : Int32)), .val (.int (2 : Int32)), .val (.int x1)] [])) (fun t kt => XT.iincV X5.here hx rfl (1 : Int32) (hb hby dK5_2_38) (by decide) rfl rfl kt) ?_
  refine Go.st (S' := T5.setTop (mkF m 3 #[.val (.ref ca), .val (.int (2 : Int32)), .val (.ref d), .val (.int (2 : Int32)), .val (.int (2 : Int32)), .val (.int (2 : Int32)), .val (.int x1)] [])) (fun t kt => XS.goto X5.here hx rfl (pc0 := 41) (pc' := 3) rfl (hb hby dK5_2_41) (by decide) (by decide) kt) ?_
  refine Go.st (S' := T5.setTop (mkF m 5 #[.val (.ref ca), .val (.int (2 : Int32)), .val (.ref d), .val (.int (2 : Int32)), .val (.int (2 : Int32)), .val (.int (2 : Int32)), .val (.int x1)] [(.int (2 : Int32))])) (fun t kt => XS.iload X5.here hx rfl (hb hby dK5_2_3) rfl kt) ?_
  refine Go.st (S' := T5.setTop (mkF m 7 #[.val (.ref ca), .val (.int (2 : Int32)), .val (.ref d), .val (.int (2 : Int32)), .val (.int (2 : Int32)), .val (.int (2 : Int32)), .val (.int x1)] [(.int (2 : Int32)), (.int (2 : Int32))])) (fun t kt => XS.iload X5.here hx rfl (hb hby dK5_2_5) rfl kt) ?_
  refine Go.st (S' := T5.setTop (mkF m 44 #[.val (.ref ca), .val (.int (2 : Int32)), .val (.ref d), .val (.int (2 : Int32)), .val (.int (2 : Int32)), .val (.int (2 : Int32)), .val (.int x1)] [])) (fun t kt => XS.icmpYes X5.here hx rfl (pc0 := 7) (pc' := 44) rfl (hb hby dK5_2_7) rfl (XT.ii_ge_t (by decide)) (by decide) (by decide) kt) ?_
  refine Go.st (S' := T5.setTop (mkF m 46 #[.val (.ref ca), .val (.int (2 : Int32)), .val (.ref d), .val (.int (2 : Int32)), .val (.int (2 : Int32)), .val (.int (2 : Int32)), .val (.int x1)] [(.int (2 : Int32))])) (fun t kt => XS.iload X5.here hx rfl (hb hby dK5_2_44) rfl kt) ?_
  exact ret_i X5 hx hlk hret (hb hby dK5_2_46) (by decide) (by decide) (by rw [e5]; exact ⟨rfl, N5, K5, V5⟩)
theorem dK3_2_0 : decode jdk_52_method_16_code 0 = .ok (.iload_n 2, 1) := by decide +kernel
theorem dK3_2_1 : decode jdk_52_method_16_code 1 = .ok (.newarray .byte, 2) := by decide +kernel
theorem dK3_2_3 : decode jdk_52_method_16_code 3 = .ok (.astore_n 3, 1) := by decide +kernel
theorem dK3_2_4 : decode jdk_52_method_16_code 4 = .ok (.aload_n 0, 1) := by decide +kernel
theorem dK3_2_5 : decode jdk_52_method_16_code 5 = .ok (.iload_n 1, 1) := by decide +kernel
theorem dK3_2_6 : decode jdk_52_method_16_code 6 = .ok (.aload_n 3, 1) := by decide +kernel
theorem dK3_2_7 : decode jdk_52_method_16_code 7 = .ok (.iconst 0, 1) := by decide +kernel
theorem dK3_2_8 : decode jdk_52_method_16_code 8 = .ok (.iload_n 2, 1) := by decide +kernel
theorem dK3_2_9 : decode jdk_52_method_16_code 9 = .ok (.invokestatic 115, 3) := by decide +kernel
theorem dK3_2_12 : decode jdk_52_method_16_code 12 = .ok (.istore 4, 2) := by decide +kernel
theorem dK3_2_14 : decode jdk_52_method_16_code 14 = .ok (.iload 4, 2) := by decide +kernel
theorem dK3_2_16 : decode jdk_52_method_16_code 16 = .ok (.iload_n 2, 1) := by decide +kernel
theorem dK3_2_17 : decode jdk_52_method_16_code 17 = .ok (.if_icmp .eq 40, 3) := by decide +kernel
theorem dK3_2_57 : decode jdk_52_method_16_code 57 = .ok (.aload_n 3, 1) := by decide +kernel
theorem dK3_2_58 : decode jdk_52_method_16_code 58 = .ok (.areturn, 1) := by decide +kernel
theorem ef_rmK3_2 (m : MethodId) (ca : Addr) : entryFrame m #[(.ref ca), (.int (0 : Int32)), (.int (2 : Int32))] 6 = mkF m 0 #[.val (.ref ca), .val (.int (0 : Int32)), .val (.int (2 : Int32)), .unset, .unset, .unset] [] := by first | exact own_entry rfl | (simp [entryFrame, mkF, argsToLocals, Value.category]; done) | rfl
set_option maxRecDepth 65536 in
set_option maxHeartbeats 40000000 in
theorem rmK3_2 (l : Launch) (Z : State) (a0 : Array Value) (hw : ∀ d ∈ tables_1, d.before a0 Z = true) (ca : Addr) (kc : ClassId) (x0 x1 : Int32) (h0 : Heap) (n0 : Nat) (Z0 : n0 ≤ h0.size) (V_c : Arv Z h0 ca kc .char (2 : Int32) [(.int x0), (.int x1)] (.int (0 : Int32))) (hx0 : ¬ (255 : Int32) < x0) (hx1 : ¬ (255 : Int32) < x1) :
    Pays l (⟨"java/lang/StringUTF16", "compress", "([CII)[B"⟩ : MethodName) jdk_52_method_16_code 6 (some (.array .byte)) ({ frames := 1, cells := 1, slots := 2, locals := 18 } : Room) Z #[(.ref ca), (.int (0 : Int32)), (.int (2 : Int32))] h0 (fun v h L => ∃ d k, v = some (.ref d) ∧ Fr n0 L ∧ Keep h0 h [] ∧ h0.size ≤ d ∧ n0 ≤ d ∧ Arv Z h d k .byte (2 : Int32) [(.int (nar .byte (x0).toInt8.toInt32)), (.int (nar .byte (x1).toInt8.toInt32))] (.int (0 : Int32))) := by
  refine Pays.of (plainFor_of_name pn_java_lang_StringUTF16) ?_
  intro pP eE sS m below methM cC T hx hby hml hret hlk hZ hown hnm eT X
  replace hown : sS.vm.findClass "java/lang/StringUTF16" = some m.cls := hown
  have N0 := Fr.nil n0
  have K0 := Keep.refl h0 ([] : List Addr)
  refine Go.cast (ef_rmK3_2 m ca) ?_
  refine Go.st (S' := T.setTop (mkF m 1 #[.val (.ref ca), .val (.int (0 : Int32)), .val (.int (2 : Int32)), .unset, .unset, .unset] [(.int (2 : Int32))])) (fun t kt => XS.iloadN X.here hx rfl (hb hby dK3_2_0) rfl kt) ?_
  obtain ⟨T1, h1, k1, X1, e1, E1, A1, st1⟩ := newP X hx hZ (hw _ (List.mem_of_getElem? (i := 19) rfl)) eT (g := (mkF m 1 #[.val (.ref ca), .val (.int (0 : Int32)), .val (.int (2 : Int32)), .unset, .unset, .unset] [(.int (2 : Int32))])) rfl (hb hby dK3_2_1) rfl (by decide) (cap := 2) (by decide) (by decide) (by decide) (by decide)
  obtain ⟨a1, g1⟩ : ∃ z, z = h0.size := ⟨_, rfl⟩
  rw [← g1] at A1 st1
  have V1 : Arv Z h1 a1 k1 .byte (2 : Int32) [(.int (0 : Int32)), (.int (0 : Int32))] (.int (0 : Int32)) := Arv.pad (Arv.new A1 (by decide)) (pad_rep [] _ 2)
  have Z1 : n0 ≤ h1.size := Nat.le_trans Z0 E1.1
  have K1 := Keep.ext K0 E1
  have sz_a1 : h0.size ≤ a1 := Nat.le_trans K0.1 (Nat.le_of_eq g1.symm)
  refine Go.st (S' := T1.setTop (mkF m 3 #[.val (.ref ca), .val (.int (0 : Int32)), .val (.int (2 : Int32)), .unset, .unset, .unset] [(.ref a1)])) (fun t kt => st1 t kt) ?_
  refine Go.st (S' := T1.setTop (mkF m 4 #[.val (.ref ca), .val (.int (0 : Int32)), .val (.int (2 : Int32)), .val (.ref a1), .unset, .unset] [])) (fun t kt => XS.astoreN X1.here hx rfl (hb hby dK3_2_3) rfl rfl rfl kt) ?_
  refine Go.st (S' := T1.setTop (mkF m 5 #[.val (.ref ca), .val (.int (0 : Int32)), .val (.int (2 : Int32)), .val (.ref a1), .unset, .unset] [(.ref ca)])) (fun t kt => XS.aloadN X1.here hx rfl (hb hby dK3_2_4) rfl rfl kt) ?_
  refine Go.st (S' := T1.setTop (mkF m 6 #[.val (.ref ca), .val (.int (0 : Int32)), .val (.int (2 : Int32)), .val (.ref a1), .unset, .unset] [(.int (0 : Int32)), (.ref ca)])) (fun t kt => XS.iloadN X1.here hx rfl (hb hby dK3_2_5) rfl kt) ?_
  refine Go.st (S' := T1.setTop (mkF m 7 #[.val (.ref ca), .val (.int (0 : Int32)), .val (.int (2 : Int32)), .val (.ref a1), .unset, .unset] [(.ref a1), (.int (0 : Int32)), (.ref ca)])) (fun t kt => XS.aloadN X1.here hx rfl (hb hby dK3_2_6) rfl rfl kt) ?_
  refine Go.st (S' := T1.setTop (mkF m 8 #[.val (.ref ca), .val (.int (0 : Int32)), .val (.int (2 : Int32)), .val (.ref a1), .unset, .unset] [(.int (0 : Int32)), (.ref a1), (.int (0 : Int32)), (.ref ca)])) (fun t kt => XS.iconst X1.here hx rfl (hb hby dK3_2_7) kt) ?_
  refine Go.st (S' := T1.setTop (mkF m 9 #[.val (.ref ca), .val (.int (0 : Int32)), .val (.int (2 : Int32)), .val (.ref a1), .unset, .unset] [(.int (2 : Int32)), (.int (0 : Int32)), (.ref a1), (.int (0 : Int32)), (.ref ca)])) (fun t kt => XS.iloadN X1.here hx rfl (hb hby dK3_2_8) rfl kt) ?_
  have f2 := (V_c.ext E1)
  refine Go.stat X1 hx hZ hown (hw _ (List.mem_of_getElem? (i := 20) rfl)) (hw _ (List.mem_of_getElem? (i := 21) rfl)) (hw _ (List.mem_of_getElem? (i := 17) rfl)) (hw _ (List.mem_of_getElem? (i := 22) rfl)) (by decide) (argsL := [(.ref ca), (.int (0 : Int32)), (.ref a1), (.int (0 : Int32)), (.int (2 : Int32))]) (rest := []) (rmK5_2 l Z a0 hw ca a1 kc k1 x0 x1 h1 n0 Z1 f2 V1 (Nat.ne_of_lt (by rw [g1]; exact V_c.lt)) (Nat.le_trans Z0 (Nat.le_of_eq g1.symm)) hx0 hx1) e1 rfl (by rw [hml]; rfl) pd___CI_BII_I rfl (hb hby dK3_2_9) 0 (Nat.le_refl _) (by decide) (by decide) (by decide) (by decide) ?_
  intro v3 T3 L3 X3 hQ3
  obtain ⟨hv3, N3', K3', f3_0⟩ := hQ3
  subst hv3
  have N3 := Fr.app N0 N3'
  have Z3 : n0 ≤ T3.heap.size := Nat.le_trans Z1 K3'.1
  have eh3 : T3.heap = T3.heap := rfl
  have K3 := Keep.trans K1 K3' (allS (Or.inr sz_a1) all0)
  show Go pP eE below _ (T3.setTop (mkF m 12 #[.val (.ref ca), .val (.int (0 : Int32)), .val (.int (2 : Int32)), .val (.ref a1), .unset, .unset] [(.int (2 : Int32))]))
  refine Go.st (S' := T3.setTop (mkF m 14 #[.val (.ref ca), .val (.int (0 : Int32)), .val (.int (2 : Int32)), .val (.ref a1), .val (.int (2 : Int32)), .unset] [])) (fun t kt => XS.istore X3.here hx rfl (hb hby dK3_2_12) rfl rfl kt) ?_
  refine Go.st (S' := T3.setTop (mkF m 16 #[.val (.ref ca), .val (.int (0 : Int32)), .val (.int (2 : Int32)), .val (.ref a1), .val (.int (2 : Int32)), .unset] [(.int (2 : Int32))])) (fun t kt => XS.iload X3.here hx rfl (hb hby dK3_2_14) rfl kt) ?_
  refine Go.st (S' := T3.setTop (mkF m 17 #[.val (.ref ca), .val (.int (0 : Int32)), .val (.int (2 : Int32)), .val (.ref a1), .val (.int (2 : Int32)), .unset] [(.int (2 : Int32)), (.int (2 : Int32))])) (fun t kt => XS.iloadN X3.here hx rfl (hb hby dK3_2_16) rfl kt) ?_
  refine Go.st (S' := T3.setTop (mkF m 57 #[.val (.ref ca), .val (.int (0 : Int32)), .val (.int (2 : Int32)), .val (.ref a1), .val (.int (2 : Int32)), .unset] [])) (fun t kt => XS.icmpYes X3.here hx rfl (pc0 := 17) (pc' := 57) rfl (hb hby dK3_2_17) rfl (XT.ii_eq_t (by decide)) (by decide) (by decide) kt) ?_
  refine Go.st (S' := T3.setTop (mkF m 58 #[.val (.ref ca), .val (.int (0 : Int32)), .val (.int (2 : Int32)), .val (.ref a1), .val (.int (2 : Int32)), .unset] [(.ref a1)])) (fun t kt => XS.aloadN X3.here hx rfl (hb hby dK3_2_57) rfl rfl kt) ?_
  exact ret_a X3 hx hlk hret rfl rfl (hb hby dK3_2_58) (by decide) (by decide) (⟨_, _, rfl, N3, K3, sz_a1, (Nat.le_trans Z0 (Nat.le_of_eq g1.symm)), f3_0⟩)
theorem dKF_2_0 : decode jdk_52_method_15_code 0 = .ok (.iload_n 1, 1) := by decide +kernel
theorem dKF_2_1 : decode jdk_52_method_15_code 1 = .ok (.aload_n 0, 1) := by decide +kernel
theorem dKF_2_2 : decode jdk_52_method_15_code 2 = .ok (.arraylength, 1) := by decide +kernel
theorem dKF_2_3 : decode jdk_52_method_15_code 3 = .ok (.isub, 1) := by decide +kernel
theorem dKF_2_4 : decode jdk_52_method_15_code 4 = .ok (.bipush 31, 2) := by decide +kernel
theorem dKF_2_6 : decode jdk_52_method_15_code 6 = .ok (.iushr, 1) := by decide +kernel
theorem dKF_2_7 : decode jdk_52_method_15_code 7 = .ok (.i2b, 1) := by decide +kernel
theorem dKF_2_8 : decode jdk_52_method_15_code 8 = .ok (.ireturn, 1) := by decide +kernel
theorem ef_rmKF_2 (m : MethodId) (d : Addr) : entryFrame m #[(.ref d), (.int (2 : Int32))] 2 = mkF m 0 #[.val (.ref d), .val (.int (2 : Int32))] [] := by first | exact own_entry rfl | (simp [entryFrame, mkF, argsToLocals, Value.category]; done) | rfl
set_option maxRecDepth 65536 in
set_option maxHeartbeats 40000000 in
theorem rmKF_2 (l : Launch) (Z : State) (a0 : Array Value) (hw : ∀ d ∈ tables_1, d.before a0 Z = true) (d : Addr) (kd : ClassId) (x0 x1 : Int32) (h0 : Heap) (n0 : Nat) (Z0 : n0 ≤ h0.size) (V_d : Arv Z h0 d kd .byte (2 : Int32) [(.int (nar .byte (x0).toInt8.toInt32)), (.int (nar .byte (x1).toInt8.toInt32))] (.int (0 : Int32))) :
    Pays l (⟨"java/lang/StringUTF16", "coderFromArrayLen", "([BI)B"⟩ : MethodName) jdk_52_method_15_code 2 (some .byte) ({ frames := 0, cells := 0, slots := 0, locals := 0 } : Room) Z #[(.ref d), (.int (2 : Int32))] h0 (fun v h L => v = some (.int (0 : Int32)) ∧ Fr n0 L ∧ h = h0) := by
  refine Pays.of (plainFor_of_name pn_java_lang_StringUTF16) ?_
  intro pP eE sS m below methM cC T hx hby hml hret hlk hZ hown hnm eT X
  replace hown : sS.vm.findClass "java/lang/StringUTF16" = some m.cls := hown
  have N0 := Fr.nil n0
  refine Go.cast (ef_rmKF_2 m d) ?_
  refine Go.st (S' := T.setTop (mkF m 1 #[.val (.ref d), .val (.int (2 : Int32))] [(.int (2 : Int32))])) (fun t kt => XS.iloadN X.here hx rfl (hb hby dKF_2_0) rfl kt) ?_
  refine Go.st (S' := T.setTop (mkF m 2 #[.val (.ref d), .val (.int (2 : Int32))] [(.ref d), (.int (2 : Int32))])) (fun t kt => XS.aloadN X.here hx rfl (hb hby dKF_2_1) rfl rfl kt) ?_
  obtain ⟨cl1, Ar1, q1, S1, M1, H1, G1⟩ := id V_d
  refine Go.st (S' := T.setTop (mkF m 3 #[.val (.ref d), .val (.int (2 : Int32))] [(.int (2 : Int32)), (.int (2 : Int32))])) (fun t kt => own_alen X hx hZ eT Ar1 (len_of S1 M1) rfl (hb hby dKF_2_2) t kt) ?_
  refine Go.st (S' := T.setTop (mkF m 4 #[.val (.ref d), .val (.int (2 : Int32))] [(.int (0 : Int32))])) (fun t kt => XS.isub X.here hx rfl (hb hby dKF_2_3) rfl kt) ?_
  refine Go.st (S' := T.setTop (mkF m 6 #[.val (.ref d), .val (.int (2 : Int32))] [(.int (31 : Int32)), (.int (0 : Int32))])) (fun t kt => XT.bipushV X.here hx rfl (31 : Int32) (hb hby dKF_2_4) (by decide) kt) ?_
  refine Go.st (S' := T.setTop (mkF m 7 #[.val (.ref d), .val (.int (2 : Int32))] [(.int (0 : Int32))])) (fun t kt => XT.iushr X.here hx rfl (hb hby dKF_2_6) rfl kt) ?_
  refine Go.st (S' := T.setTop (mkF m 8 #[.val (.ref d), .val (.int (2 : Int32))] [(.int (0 : Int32))])) (fun t kt => XT.i2b X.here hx rfl (hb hby dKF_2_7) rfl kt) ?_
  exact ret_y X hx hlk hret (hb hby dKF_2_8) (by decide) (by decide) (⟨rfl, N0, eT⟩)
theorem dK4_2_0 : decode jdk_42_method_149_code 0 = .ok (.aload_n 0, 1) := by decide +kernel
theorem dK4_2_1 : decode jdk_42_method_149_code 1 = .ok (.invokespecial 1, 3) := by decide +kernel
theorem dK4_2_4 : decode jdk_42_method_149_code 4 = .ok (.iload_n 3, 1) := by decide +kernel
theorem dK4_2_5 : decode jdk_42_method_149_code 5 = .ok (.ifCond .ne 22, 3) := by decide +kernel
theorem dK4_2_27 : decode jdk_42_method_149_code 27 = .ok (.getstatic 38, 3) := by decide +kernel
theorem dK4_2_30 : decode jdk_42_method_149_code 30 = .ok (.ifCond .eq 28, 3) := by decide +kernel
theorem dK4_2_33 : decode jdk_42_method_149_code 33 = .ok (.aload_n 1, 1) := by decide +kernel
theorem dK4_2_34 : decode jdk_42_method_149_code 34 = .ok (.iload_n 2, 1) := by decide +kernel
theorem dK4_2_35 : decode jdk_42_method_149_code 35 = .ok (.iload_n 3, 1) := by decide +kernel
theorem dK4_2_36 : decode jdk_42_method_149_code 36 = .ok (.invokestatic 177, 3) := by decide +kernel
theorem dK4_2_39 : decode jdk_42_method_149_code 39 = .ok (.astore 5, 2) := by decide +kernel
theorem dK4_2_41 : decode jdk_42_method_149_code 41 = .ok (.aload_n 0, 1) := by decide +kernel
theorem dK4_2_42 : decode jdk_42_method_149_code 42 = .ok (.aload 5, 2) := by decide +kernel
theorem dK4_2_44 : decode jdk_42_method_149_code 44 = .ok (.iload_n 3, 1) := by decide +kernel
theorem dK4_2_45 : decode jdk_42_method_149_code 45 = .ok (.invokestatic 47, 3) := by decide +kernel
theorem dK4_2_48 : decode jdk_42_method_149_code 48 = .ok (.putfield 15, 3) := by decide +kernel
theorem dK4_2_51 : decode jdk_42_method_149_code 51 = .ok (.aload_n 0, 1) := by decide +kernel
theorem dK4_2_52 : decode jdk_42_method_149_code 52 = .ok (.aload 5, 2) := by decide +kernel
theorem dK4_2_54 : decode jdk_42_method_149_code 54 = .ok (.putfield 9, 3) := by decide +kernel
theorem dK4_2_57 : decode jdk_42_method_149_code 57 = .ok (.return_, 1) := by decide +kernel
theorem ef_rmK4_2 (m : MethodId) (a : Addr) (ca : Addr) : entryFrame m #[(.ref a), (.ref ca), (.int (0 : Int32)), (.int (2 : Int32)), .null] 6 = mkF m 0 #[.val (.ref a), .val (.ref ca), .val (.int (0 : Int32)), .val (.int (2 : Int32)), .val .null, .unset] [] := by first | exact own_entry rfl | (simp [entryFrame, mkF, argsToLocals, Value.category]; done) | rfl
set_option maxRecDepth 65536 in
set_option maxHeartbeats 40000000 in
theorem rmK4_2 (l : Launch) (Z : State) (a0 : Array Value) (hw : ∀ d ∈ tables_1, d.before a0 Z = true) (a ca : Addr) (kc : ClassId) (x0 x1 : Int32) (h0 : Heap) (n0 : Nat) (Z0 : n0 ≤ h0.size) (E_a : Exa Z h0 a "java/lang/String") (ha : n0 ≤ a) (hca : ca ≠ a) (F_value : Fld Z h0 a "java/lang/String" "value" "[B" .null) (F_coder : Fld Z h0 a "java/lang/String" "coder" "B" (.int (0 : Int32))) (V_c : Arv Z h0 ca kc .char (2 : Int32) [(.int x0), (.int x1)] (.int (0 : Int32))) (hx0 : ¬ (255 : Int32) < x0) (hx1 : ¬ (255 : Int32) < x1) (cs : Int32) (S_cs : Sta Z h0 "java/lang/String" "COMPACT_STRINGS" "Z" (.int cs)) (hcs : ¬ cs = 0) :
    Pays l (⟨"java/lang/String", "<init>", "([CIILjava/lang/Void;)V"⟩ : MethodName) jdk_42_method_149_code 6 none ({ frames := 2, cells := 1, slots := 2, locals := 35 } : Room) Z #[(.ref a), (.ref ca), (.int (0 : Int32)), (.int (2 : Int32)), .null] h0 (fun v h L => ∃ d k, v = none ∧ Fr n0 L ∧ Keep h0 h [a] ∧ h0.size ≤ d ∧ n0 ≤ d ∧ Exa Z h a "java/lang/String" ∧ Fld Z h a "java/lang/String" "value" "[B" (.ref d) ∧ Fld Z h a "java/lang/String" "coder" "B" (.int (0 : Int32)) ∧ Arv Z h d k .byte (2 : Int32) [(.int (nar .byte (x0).toInt8.toInt32)), (.int (nar .byte (x1).toInt8.toInt32))] (.int (0 : Int32))) := by
  refine Pays.of (plainFor_of_name pn_java_lang_String) ?_
  intro pP eE sS m below methM cC T hx hby hml hret hlk hZ hown hnm eT X
  replace hown : sS.vm.findClass "java/lang/String" = some m.cls := hown
  have N0 := Fr.nil n0
  have K0 := Keep.refl h0 [a]
  refine Go.cast (ef_rmK4_2 m a ca) ?_
  refine Go.st (S' := T.setTop (mkF m 1 #[.val (.ref a), .val (.ref ca), .val (.int (0 : Int32)), .val (.int (2 : Int32)), .val .null, .unset] [(.ref a)])) (fun t kt => XS.aloadN X.here hx rfl (hb hby dK4_2_0) rfl rfl kt) ?_
  obtain ⟨T1, X1, e1, st1⟩ := initO X hx hZ hown (hw _ (List.mem_of_getElem? (i := 11) rfl)) (hw _ (List.mem_of_getElem? (i := 12) rfl)) (hw _ (List.mem_of_getElem? (i := 13) rfl)) eT (g := (mkF m 1 #[.val (.ref a), .val (.ref ca), .val (.int (0 : Int32)), .val (.int (2 : Int32)), .val .null, .unset] [(.ref a)])) rfl (by rw [hml]; rfl) rfl (hb hby dK4_2_1) (by decide) (W := 0) (by show 2 * 0 + _ ≤ _; exact Nat.le_of_eq rfl) (by decide)
  refine Go.st (S' := T1.setTop (mkF m 4 #[.val (.ref a), .val (.ref ca), .val (.int (0 : Int32)), .val (.int (2 : Int32)), .val .null, .unset] [])) (fun t kt => st1 t kt) ?_
  refine Go.st (S' := T1.setTop (mkF m 5 #[.val (.ref a), .val (.ref ca), .val (.int (0 : Int32)), .val (.int (2 : Int32)), .val .null, .unset] [(.int (2 : Int32))])) (fun t kt => XS.iloadN X1.here hx rfl (hb hby dK4_2_4) rfl kt) ?_
  refine Go.st (S' := T1.setTop (mkF m 27 #[.val (.ref a), .val (.ref ca), .val (.int (0 : Int32)), .val (.int (2 : Int32)), .val .null, .unset] [])) (fun t kt => XS.ifYes X1.here hx rfl (pc0 := 5) (pc' := 27) rfl (hb hby dK4_2_5) rfl (XT.i0_ne_t (by decide)) (by decide) (by decide) kt) ?_
  obtain ⟨T2, X2, e2, st2⟩ := getS X1 hx hZ (host := "") hown (hw _ (List.mem_of_getElem? (i := 14) rfl)) Via.refl e1 S_cs (g := (mkF m 27 #[.val (.ref a), .val (.ref ca), .val (.int (0 : Int32)), .val (.int (2 : Int32)), .val .null, .unset] [])) rfl (hb hby dK4_2_27)
  refine Go.st (S' := T2.setTop (mkF m 30 #[.val (.ref a), .val (.ref ca), .val (.int (0 : Int32)), .val (.int (2 : Int32)), .val .null, .unset] [(.int cs)])) (fun t kt => st2 t kt) ?_
  refine Go.st (S' := T2.setTop (mkF m 33 #[.val (.ref a), .val (.ref ca), .val (.int (0 : Int32)), .val (.int (2 : Int32)), .val .null, .unset] [])) (fun t kt => XS.ifNo X2.here hx rfl (hb hby dK4_2_30) rfl (XT.i0_eq_f hcs) kt) ?_
  refine Go.st (S' := T2.setTop (mkF m 34 #[.val (.ref a), .val (.ref ca), .val (.int (0 : Int32)), .val (.int (2 : Int32)), .val .null, .unset] [(.ref ca)])) (fun t kt => XS.aloadN X2.here hx rfl (hb hby dK4_2_33) rfl rfl kt) ?_
  refine Go.st (S' := T2.setTop (mkF m 35 #[.val (.ref a), .val (.ref ca), .val (.int (0 : Int32)), .val (.int (2 : Int32)), .val .null, .unset] [(.int (0 : Int32)), (.ref ca)])) (fun t kt => XS.iloadN X2.here hx rfl (hb hby dK4_2_34) rfl kt) ?_
  refine Go.st (S' := T2.setTop (mkF m 36 #[.val (.ref a), .val (.ref ca), .val (.int (0 : Int32)), .val (.int (2 : Int32)), .val .null, .unset] [(.int (2 : Int32)), (.int (0 : Int32)), (.ref ca)])) (fun t kt => XS.iloadN X2.here hx rfl (hb hby dK4_2_35) rfl kt) ?_
  refine Go.stat X2 hx hZ hown (hw _ (List.mem_of_getElem? (i := 15) rfl)) (hw _ (List.mem_of_getElem? (i := 16) rfl)) (hw _ (List.mem_of_getElem? (i := 17) rfl)) (hw _ (List.mem_of_getElem? (i := 18) rfl)) (by decide) (argsL := [(.ref ca), (.int (0 : Int32)), (.int (2 : Int32))]) (rest := []) (rmK3_2 l Z a0 hw ca kc x0 x1 h0 n0 Z0 V_c hx0 hx1) e2 rfl (by rw [hml]; rfl) pd___CII__B rfl (hb hby dK4_2_36) 0 (Nat.le_refl _) (by decide) (by decide) (by decide) (by decide) ?_
  intro v3 T3 L3 X3 hQ3
  obtain ⟨d3, k3, hv3, N3', K3', y3_0, u3_0, f3_0⟩ := hQ3
  subst hv3
  have N3 := Fr.app N0 N3'
  have Z3 : n0 ≤ T3.heap.size := Nat.le_trans Z0 K3'.1
  have eh3 : T3.heap = T3.heap := rfl
  have sz_d3 : h0.size ≤ d3 := Nat.le_trans K0.1 y3_0
  have K3 := Keep.trans K0 K3' all0
  show Go pP eE below _ (T3.setTop (mkF m 39 #[.val (.ref a), .val (.ref ca), .val (.int (0 : Int32)), .val (.int (2 : Int32)), .val .null, .unset] [(.ref d3)]))
  refine Go.st (S' := T3.setTop (mkF m 41 #[.val (.ref a), .val (.ref ca), .val (.int (0 : Int32)), .val (.int (2 : Int32)), .val .null, .val (.ref d3)] [])) (fun t kt => XS.astore X3.here hx rfl (hb hby dK4_2_39) rfl rfl rfl kt) ?_
  refine Go.st (S' := T3.setTop (mkF m 42 #[.val (.ref a), .val (.ref ca), .val (.int (0 : Int32)), .val (.int (2 : Int32)), .val .null, .val (.ref d3)] [(.ref a)])) (fun t kt => XS.aloadN X3.here hx rfl (hb hby dK4_2_41) rfl rfl kt) ?_
  refine Go.st (S' := T3.setTop (mkF m 44 #[.val (.ref a), .val (.ref ca), .val (.int (0 : Int32)), .val (.int (2 : Int32)), .val .null, .val (.ref d3)] [(.ref d3), (.ref a)])) (fun t kt => XS.aload X3.here hx rfl (hb hby dK4_2_42) rfl rfl kt) ?_
  refine Go.st (S' := T3.setTop (mkF m 45 #[.val (.ref a), .val (.ref ca), .val (.int (0 : Int32)), .val (.int (2 : Int32)), .val .null, .val (.ref d3)] [(.int (2 : Int32)), (.ref d3), (.ref a)])) (fun t kt => XS.iloadN X3.here hx rfl (hb hby dK4_2_44) rfl kt) ?_
  refine Go.stat X3 hx hZ hown (hw _ (List.mem_of_getElem? (i := 23) rfl)) (hw _ (List.mem_of_getElem? (i := 24) rfl)) (hw _ (List.mem_of_getElem? (i := 17) rfl)) (hw _ (List.mem_of_getElem? (i := 25) rfl)) (by decide) (argsL := [(.ref d3), (.int (2 : Int32))]) (rest := [(.ref a)]) (rmKF_2 l Z a0 hw d3 k3 x0 x1 T3.heap n0 Z3 f3_0) eh3 rfl (by rw [hml]; rfl) pd___BI_B rfl (hb hby dK4_2_45) 1 (Nat.le_refl _) (by decide) (by decide) (by decide) (by decide) ?_
  intro v4 T4 L4 X4 hQ4
  obtain ⟨hv4, N4', e4⟩ := hQ4
  subst hv4
  have N4 := Fr.app N3 N4'
  show Go pP eE below _ (T4.setTop (mkF m 48 #[.val (.ref a), .val (.ref ca), .val (.int (0 : Int32)), .val (.int (2 : Int32)), .val .null, .val (.ref d3)] [(.int (0 : Int32)), (.ref a)]))
  have f5 := (F_coder.keep K3' nin0)
  have f6 := (E_a.keep K3')
  obtain ⟨T7, h7, X7, e7, W7, st7⟩ := putF X4 hx hZ hown (host := "") (Or.inl (hw _ (List.mem_of_getElem? (i := 26) rfl))) Via.refl e4 f5 f6 (Or.inr ⟨(hw _ (List.mem_of_getElem? (i := 27) rfl)), rfl, hnm⟩) (hw _ (List.mem_of_getElem? (i := 1) rfl)) (ty := .byte) (by decide) rfl rfl (g := (mkF m 48 #[.val (.ref a), .val (.ref ca), .val (.int (0 : Int32)), .val (.int (2 : Int32)), .val .null, .val (.ref d3)] [(.int (0 : Int32)), (.ref a)])) rfl rfl (hb hby dK4_2_48)
  have F7 := Fld.same W7 f5
  have N7 := Fr.snoc X7 N4 ha
  have Z7 : n0 ≤ h7.size := by rw [Wr.size W7]; exact Z3
  have K7 := Keep.wr K3 W7 (Or.inl (List.mem_of_getElem? (i := 0) rfl))
  refine Go.st (S' := T7.setTop (mkF m 51 #[.val (.ref a), .val (.ref ca), .val (.int (0 : Int32)), .val (.int (2 : Int32)), .val .null, .val (.ref d3)] [])) (fun t kt => st7 t kt) ?_
  refine Go.st (S' := T7.setTop (mkF m 52 #[.val (.ref a), .val (.ref ca), .val (.int (0 : Int32)), .val (.int (2 : Int32)), .val .null, .val (.ref d3)] [(.ref a)])) (fun t kt => XS.aloadN X7.here hx rfl (hb hby dK4_2_51) rfl rfl kt) ?_
  refine Go.st (S' := T7.setTop (mkF m 54 #[.val (.ref a), .val (.ref ca), .val (.int (0 : Int32)), .val (.int (2 : Int32)), .val .null, .val (.ref d3)] [(.ref d3), (.ref a)])) (fun t kt => XS.aload X7.here hx rfl (hb hby dK4_2_52) rfl rfl kt) ?_
  have f8 := (Fld.other W7 (F_value.keep K3' nin0) (Or.inr (slot_ne (Or.inr (hw _ (List.mem_of_getElem? (i := 29) rfl))) (Or.inr (hw _ (List.mem_of_getElem? (i := 27) rfl))) (by decide) (t := (.array .byte)) (t' := .byte) (by decide) (by decide))))
  have f9 := (Exa.wr W7 f6)
  obtain ⟨T10, h10, X10, e10, W10, st10⟩ := putF X7 hx hZ hown (host := "") (Or.inl (hw _ (List.mem_of_getElem? (i := 28) rfl))) Via.refl e7 f8 f9 (Or.inr ⟨(hw _ (List.mem_of_getElem? (i := 29) rfl)), rfl, hnm⟩) (hw _ (List.mem_of_getElem? (i := 1) rfl)) (ty := (.array .byte)) (by decide) rfl rfl (g := (mkF m 54 #[.val (.ref a), .val (.ref ca), .val (.int (0 : Int32)), .val (.int (2 : Int32)), .val .null, .val (.ref d3)] [(.ref d3), (.ref a)])) rfl rfl (hb hby dK4_2_54)
  have F10 := Fld.same W10 f8
  have N10 := Fr.snoc X10 N7 ha
  have Z10 : n0 ≤ h10.size := by rw [Wr.size W10]; exact Z7
  have K10 := Keep.wr K7 W10 (Or.inl (List.mem_of_getElem? (i := 0) rfl))
  refine Go.st (S' := T10.setTop (mkF m 57 #[.val (.ref a), .val (.ref ca), .val (.int (0 : Int32)), .val (.int (2 : Int32)), .val .null, .val (.ref d3)] [])) (fun t kt => st10 t kt) ?_
  have f11 := (Exa.wr W10 f9)
  have f12 := (Fld.other W10 F7 (Or.inr (slot_ne (Or.inr (hw _ (List.mem_of_getElem? (i := 27) rfl))) (Or.inr (hw _ (List.mem_of_getElem? (i := 29) rfl))) (by decide) (t := .byte) (t' := (.array .byte)) (by decide) (by decide))))
  have f13 := ((f3_0.other W7 (Ne.symm (Nat.ne_of_lt (Nat.lt_of_lt_of_le E_a.lt y3_0)))).other W10 (Ne.symm (Nat.ne_of_lt (Nat.lt_of_lt_of_le E_a.lt y3_0))))
  exact ret_v X10 hx hlk hret (hb hby dK4_2_57) (by decide) (by decide) (by rw [e10]; exact ⟨_, _, rfl, N10, K10, sz_d3, u3_0, f11, F10, f12, f13⟩)
theorem dK1_2_0 : decode jdk_42_method_3_code 0 = .ok (.aload_n 0, 1) := by decide +kernel
theorem dK1_2_1 : decode jdk_42_method_3_code 1 = .ok (.aload_n 1, 1) := by decide +kernel
theorem dK1_2_2 : decode jdk_42_method_3_code 2 = .ok (.iconst 0, 1) := by decide +kernel
theorem dK1_2_3 : decode jdk_42_method_3_code 3 = .ok (.aload_n 1, 1) := by decide +kernel
theorem dK1_2_4 : decode jdk_42_method_3_code 4 = .ok (.arraylength, 1) := by decide +kernel
theorem dK1_2_5 : decode jdk_42_method_3_code 5 = .ok (.aconst_null, 1) := by decide +kernel
theorem dK1_2_6 : decode jdk_42_method_3_code 6 = .ok (.invokespecial 27, 3) := by decide +kernel
theorem dK1_2_9 : decode jdk_42_method_3_code 9 = .ok (.return_, 1) := by decide +kernel
theorem ef_rmK1_2 (m : MethodId) (a : Addr) (ca : Addr) : entryFrame m #[(.ref a), (.ref ca)] 2 = mkF m 0 #[.val (.ref a), .val (.ref ca)] [] := by first | exact own_entry rfl | (simp [entryFrame, mkF, argsToLocals, Value.category]; done) | rfl
set_option maxRecDepth 65536 in
set_option maxHeartbeats 40000000 in
theorem rmK1_2 (l : Launch) (Z : State) (a0 : Array Value) (hw : ∀ d ∈ tables_1, d.before a0 Z = true) (a ca : Addr) (kc : ClassId) (x0 x1 : Int32) (h0 : Heap) (n0 : Nat) (Z0 : n0 ≤ h0.size) (E_a : Exa Z h0 a "java/lang/String") (ha : n0 ≤ a) (hca : ca ≠ a) (F_value : Fld Z h0 a "java/lang/String" "value" "[B" .null) (F_coder : Fld Z h0 a "java/lang/String" "coder" "B" (.int (0 : Int32))) (V_c : Arv Z h0 ca kc .char (2 : Int32) [(.int x0), (.int x1)] (.int (0 : Int32))) (hx0 : ¬ (255 : Int32) < x0) (hx1 : ¬ (255 : Int32) < x1) (cs : Int32) (S_cs : Sta Z h0 "java/lang/String" "COMPACT_STRINGS" "Z" (.int cs)) (hcs : ¬ cs = 0) :
    Pays l (⟨"java/lang/String", "<init>", "([C)V"⟩ : MethodName) jdk_42_method_3_code 2 none ({ frames := 3, cells := 1, slots := 2, locals := 52 } : Room) Z #[(.ref a), (.ref ca)] h0 (fun v h L => ∃ d k, v = none ∧ Fr n0 L ∧ Keep h0 h [a] ∧ h0.size ≤ d ∧ n0 ≤ d ∧ Exa Z h a "java/lang/String" ∧ Fld Z h a "java/lang/String" "value" "[B" (.ref d) ∧ Fld Z h a "java/lang/String" "coder" "B" (.int (0 : Int32)) ∧ Arv Z h d k .byte (2 : Int32) [(.int (nar .byte (x0).toInt8.toInt32)), (.int (nar .byte (x1).toInt8.toInt32))] (.int (0 : Int32))) := by
  refine Pays.of (plainFor_of_name pn_java_lang_String) ?_
  intro pP eE sS m below methM cC T hx hby hml hret hlk hZ hown hnm eT X
  replace hown : sS.vm.findClass "java/lang/String" = some m.cls := hown
  have N0 := Fr.nil n0
  have K0 := Keep.refl h0 [a]
  refine Go.cast (ef_rmK1_2 m a ca) ?_
  refine Go.st (S' := T.setTop (mkF m 1 #[.val (.ref a), .val (.ref ca)] [(.ref a)])) (fun t kt => XS.aloadN X.here hx rfl (hb hby dK1_2_0) rfl rfl kt) ?_
  refine Go.st (S' := T.setTop (mkF m 2 #[.val (.ref a), .val (.ref ca)] [(.ref ca), (.ref a)])) (fun t kt => XS.aloadN X.here hx rfl (hb hby dK1_2_1) rfl rfl kt) ?_
  refine Go.st (S' := T.setTop (mkF m 3 #[.val (.ref a), .val (.ref ca)] [(.int (0 : Int32)), (.ref ca), (.ref a)])) (fun t kt => XS.iconst X.here hx rfl (hb hby dK1_2_2) kt) ?_
  refine Go.st (S' := T.setTop (mkF m 4 #[.val (.ref a), .val (.ref ca)] [(.ref ca), (.int (0 : Int32)), (.ref ca), (.ref a)])) (fun t kt => XS.aloadN X.here hx rfl (hb hby dK1_2_3) rfl rfl kt) ?_
  obtain ⟨cl1, Ar1, q1, S1, M1, H1, G1⟩ := id V_c
  refine Go.st (S' := T.setTop (mkF m 5 #[.val (.ref a), .val (.ref ca)] [(.int (2 : Int32)), (.int (0 : Int32)), (.ref ca), (.ref a)])) (fun t kt => own_alen X hx hZ eT Ar1 (len_of S1 M1) rfl (hb hby dK1_2_4) t kt) ?_
  refine Go.st (S' := T.setTop (mkF m 6 #[.val (.ref a), .val (.ref ca)] [.null, (.int (2 : Int32)), (.int (0 : Int32)), (.ref ca), (.ref a)])) (fun t kt => XS.aconstNull X.here hx rfl (hb hby dK1_2_5) kt) ?_
  refine Go.init X hx hZ rfl hown (hw _ (List.mem_of_getElem? (i := 7) rfl)) (hw _ (List.mem_of_getElem? (i := 8) rfl)) (hw _ (List.mem_of_getElem? (i := 10) rfl)) (hw _ (List.mem_of_getElem? (i := 2) rfl)) (by decide) (b := a) (argsL := [(.ref ca), (.int (0 : Int32)), (.int (2 : Int32)), .null]) (rest := []) (rmK4_2 l Z a0 hw a ca kc x0 x1 h0 n0 Z0 E_a ha hca F_value F_coder V_c hx0 hx1 cs S_cs hcs) eT rfl (by rw [hml]; rfl) pd___CIILjava_lang_Void__V rfl (hb hby dK1_2_6) 0 (Nat.le_refl _) (by decide) (by decide) (by decide) (by decide) ?_
  intro v2 T2 L2 X2 hQ2
  obtain ⟨d2, k2, hv2, N2', K2', y2_0, u2_0, f2_0, f2_1, f2_2, f2_3⟩ := hQ2
  subst hv2
  have N2 := Fr.app N0 N2'
  have Z2 : n0 ≤ T2.heap.size := Nat.le_trans Z0 K2'.1
  have eh2 : T2.heap = T2.heap := rfl
  have sz_d2 : h0.size ≤ d2 := Nat.le_trans K0.1 y2_0
  have K2 := Keep.trans K0 K2' (allS (Or.inl (List.mem_of_getElem? (i := 0) rfl)) all0)
  show Go pP eE below _ (T2.setTop (mkF m 9 #[.val (.ref a), .val (.ref ca)] []))
  exact ret_v X2 hx hlk hret (hb hby dK1_2_9) (by decide) (by decide) (by rw [eh2]; exact ⟨_, _, rfl, N2, K2, sz_d2, u2_0, f2_0, f2_1, f2_2, f2_3⟩)
theorem dK4_0_0 : decode jdk_42_method_149_code 0 = .ok (.aload_n 0, 1) := by decide +kernel
theorem dK4_0_1 : decode jdk_42_method_149_code 1 = .ok (.invokespecial 1, 3) := by decide +kernel
theorem dK4_0_4 : decode jdk_42_method_149_code 4 = .ok (.iload_n 3, 1) := by decide +kernel
theorem dK4_0_5 : decode jdk_42_method_149_code 5 = .ok (.ifCond .ne 22, 3) := by decide +kernel
theorem dK4_0_8 : decode jdk_42_method_149_code 8 = .ok (.aload_n 0, 1) := by decide +kernel
theorem dK4_0_9 : decode jdk_42_method_149_code 9 = .ok (.ldc 7, 2) := by decide +kernel
theorem dK4_0_11 : decode jdk_42_method_149_code 11 = .ok (.getfield 9, 3) := by decide +kernel
theorem dK4_0_14 : decode jdk_42_method_149_code 14 = .ok (.putfield 9, 3) := by decide +kernel
theorem dK4_0_17 : decode jdk_42_method_149_code 17 = .ok (.aload_n 0, 1) := by decide +kernel
theorem dK4_0_18 : decode jdk_42_method_149_code 18 = .ok (.ldc 7, 2) := by decide +kernel
theorem dK4_0_20 : decode jdk_42_method_149_code 20 = .ok (.getfield 15, 3) := by decide +kernel
theorem dK4_0_23 : decode jdk_42_method_149_code 23 = .ok (.putfield 15, 3) := by decide +kernel
theorem dK4_0_26 : decode jdk_42_method_149_code 26 = .ok (.return_, 1) := by decide +kernel
theorem ef_rmK4_0 (m : MethodId) (a : Addr) (ca : Addr) : entryFrame m #[(.ref a), (.ref ca), (.int (0 : Int32)), (.int (0 : Int32)), .null] 6 = mkF m 0 #[.val (.ref a), .val (.ref ca), .val (.int (0 : Int32)), .val (.int (0 : Int32)), .val .null, .unset] [] := by first | exact own_entry rfl | (simp [entryFrame, mkF, argsToLocals, Value.category]; done) | rfl
set_option maxRecDepth 65536 in
set_option maxHeartbeats 40000000 in
theorem rmK4_0 (l : Launch) (Z : State) (a0 : Array Value) (hw : ∀ d ∈ tables_1, d.before a0 Z = true) (a ca : Addr) (kc : ClassId) (h0 : Heap) (n0 : Nat) (Z0 : n0 ≤ h0.size) (E_a : Exa Z h0 a "java/lang/String") (ha : n0 ≤ a) (hca : ca ≠ a) (F_value : Fld Z h0 a "java/lang/String" "value" "[B" .null) (F_coder : Fld Z h0 a "java/lang/String" "coder" "B" (.int (0 : Int32))) (V_c : Arv Z h0 ca kc .char (0 : Int32) [] (.int (0 : Int32))) :
    PaysW l (⟨"java/lang/String", "<init>", "([CIILjava/lang/Void;)V"⟩ : MethodName) jdk_42_method_149_code 6 none ({ frames := 1, cells := 2, slots := 4, locals := 12 } : Room) Z own_EL #[(.ref a), (.ref ca), (.int (0 : Int32)), (.int (0 : Int32)), .null] h0 (fun v h L => ∃ d k, v = none ∧ Fr n0 L ∧ Keep h0 h [a] ∧ Exa Z h a "java/lang/String" ∧ Fld Z h a "java/lang/String" "value" "[B" (.ref d) ∧ Fld Z h a "java/lang/String" "coder" "B" (.int (0 : Int32)) ∧ Arv Z h d k .byte (0 : Int32) [] (.int (0 : Int32))) := by
  refine PaysW.of (plainFor_of_name pn_java_lang_String) ?_
  intro pP eE sS m below methM cC T hx hby hml hret hlk hZ0 hown0 hnm eT X C0 hS
  replace hown0 : sS.vm.findClass "java/lang/String" = some m.cls := hown0
  have hown : (sS.setVm sS.vm).vm.findClass "java/lang/String" = some m.cls := hown0
  have hZ : Z.Warmed39 (sS.setVm sS.vm).vm := hZ0
  have hk : 0 ≤ h0.size := Nat.zero_le _
  have hEL := own_ew hw
  have N0 := Fr.nil n0
  have K0 := Keep.refl h0 [a]
  refine Go.cast (ef_rmK4_0 m a ca) ?_
  refine Go.st (S' := T.setTop (mkF m 1 #[.val (.ref a), .val (.ref ca), .val (.int (0 : Int32)), .val (.int (0 : Int32)), .val .null, .unset] [(.ref a)])) (fun t kt => XS.aloadN X.here hx rfl (hb hby dK4_0_0) rfl rfl kt) ?_
  obtain ⟨T1, X1, e1, st1⟩ := initO X hx hZ hown (hw _ (List.mem_of_getElem? (i := 11) rfl)) (hw _ (List.mem_of_getElem? (i := 12) rfl)) (hw _ (List.mem_of_getElem? (i := 13) rfl)) eT (g := (mkF m 1 #[.val (.ref a), .val (.ref ca), .val (.int (0 : Int32)), .val (.int (0 : Int32)), .val .null, .unset] [(.ref a)])) rfl (by rw [hml]; rfl) rfl (hb hby dK4_0_1) (by decide) (W := 0) (by show 2 * 0 + _ ≤ _; exact Nat.le_of_eq rfl) (by decide)
  refine Go.st (S' := T1.setTop (mkF m 4 #[.val (.ref a), .val (.ref ca), .val (.int (0 : Int32)), .val (.int (0 : Int32)), .val .null, .unset] [])) (fun t kt => st1 t kt) ?_
  refine Go.st (S' := T1.setTop (mkF m 5 #[.val (.ref a), .val (.ref ca), .val (.int (0 : Int32)), .val (.int (0 : Int32)), .val .null, .unset] [(.int (0 : Int32))])) (fun t kt => XS.iloadN X1.here hx rfl (hb hby dK4_0_4) rfl kt) ?_
  refine Go.st (S' := T1.setTop (mkF m 8 #[.val (.ref a), .val (.ref ca), .val (.int (0 : Int32)), .val (.int (0 : Int32)), .val .null, .unset] [])) (fun t kt => XS.ifNo X1.here hx rfl (hb hby dK4_0_5) rfl (XT.i0_ne_f (by decide)) kt) ?_
  refine Go.st (S' := T1.setTop (mkF m 9 #[.val (.ref a), .val (.ref ca), .val (.int (0 : Int32)), .val (.int (0 : Int32)), .val .null, .unset] [(.ref a)])) (fun t kt => XS.aloadN X1.here hx rfl (hb hby dK4_0_8) rfl rfl kt) ?_
  obtain ⟨a2, T2, h2, k2, b2, c2, X2, e2, E2, hS, hk, hZ, hown, fe2, fc2, fv2, fa2, -, -, A2, Lit2, ne2, st2⟩ := ldcCH X1 hx hZ hown (hw _ (List.mem_of_getElem? (i := 82) rfl)) (own_ws hw) e1 hS hk hEL (List.mem_of_getElem? (i := 0) rfl) C0.1 (vs := []) (z := (0 : Int32)) ⟨by decide, by decide⟩ (by decide) rfl (g := (mkF m 9 #[.val (.ref a), .val (.ref ca), .val (.int (0 : Int32)), .val (.int (0 : Int32)), .val .null, .unset] [(.ref a)])) rfl (hb hby dK4_0_9) (n := 0) (by decide) (by decide) (by decide) (by decide)
  have C2 := CHr.trans C0 A2
  have Z2 : n0 ≤ h2.size := Nat.le_trans Z0 E2.1
  have K2 := Keep.ext K0 E2
  have f3 := (CHr.safe A2 E_a.lt (own_safe_null (show Z.vm.Alike sS.vm from hZ0.alike) E_a F_value))
  have f4 := (V_c.ext E2)
  refine Go.st (S' := T2.setTop (mkF m 11 #[.val (.ref a), .val (.ref ca), .val (.int (0 : Int32)), .val (.int (0 : Int32)), .val .null, .unset] [(.ref a2), (.ref a)])) (fun t kt => st2 t kt) ?_
  obtain ⟨T5, X5, e5, st5⟩ := getF X2 hx hZ hown (host := "") (Or.inl (hw _ (List.mem_of_getElem? (i := 28) rfl))) Via.refl e2 fv2 (g := (mkF m 11 #[.val (.ref a), .val (.ref ca), .val (.int (0 : Int32)), .val (.int (0 : Int32)), .val .null, .unset] [(.ref a2), (.ref a)])) rfl rfl (hb hby dK4_0_11)
  refine Go.st (S' := T5.setTop (mkF m 14 #[.val (.ref a), .val (.ref ca), .val (.int (0 : Int32)), .val (.int (0 : Int32)), .val .null, .unset] [(.ref b2), (.ref a)])) (fun t kt => st5 t kt) ?_
  have f6 := (F_value.ext E2)
  have f7 := (E_a.ext E2)
  obtain ⟨T8, h8, X8, e8, W8, st8⟩ := putF X5 hx hZ hown (host := "") (Or.inl (hw _ (List.mem_of_getElem? (i := 28) rfl))) Via.refl e5 f6 f7 (Or.inr ⟨(hw _ (List.mem_of_getElem? (i := 29) rfl)), rfl, hnm⟩) (hw _ (List.mem_of_getElem? (i := 1) rfl)) (ty := (.array .byte)) (by decide) rfl rfl (g := (mkF m 14 #[.val (.ref a), .val (.ref ca), .val (.int (0 : Int32)), .val (.int (0 : Int32)), .val .null, .unset] [(.ref b2), (.ref a)])) rfl rfl (hb hby dK4_0_14)
  have F8 := Fld.same W8 f6
  have N8 := Fr.snoc X8 N0 ha
  have C8 := CHr.trans C2 (CHr.wr W8 f3 C2.1)
  have hk := Nat.le_trans hk (Nat.le_of_eq (Wr.size W8).symm)
  have Z8 : n0 ≤ h8.size := by rw [Wr.size W8]; exact Z2
  have K8 := Keep.wr K2 W8 (Or.inl (List.mem_of_getElem? (i := 0) rfl))
  refine Go.st (S' := T8.setTop (mkF m 17 #[.val (.ref a), .val (.ref ca), .val (.int (0 : Int32)), .val (.int (0 : Int32)), .val .null, .unset] [])) (fun t kt => st8 t kt) ?_
  refine Go.st (S' := T8.setTop (mkF m 18 #[.val (.ref a), .val (.ref ca), .val (.int (0 : Int32)), .val (.int (0 : Int32)), .val .null, .unset] [(.ref a)])) (fun t kt => XS.aloadN X8.here hx rfl (hb hby dK4_0_17) rfl rfl kt) ?_
  refine Go.st (S' := T8.setTop (mkF m 20 #[.val (.ref a), .val (.ref ca), .val (.int (0 : Int32)), .val (.int (0 : Int32)), .val .null, .unset] [(.ref a2), (.ref a)])) (fun t kt => ldcAgain X8 hx hZ hown (hw _ (List.mem_of_getElem? (i := 82) rfl)) Lit2 (g := (mkF m 18 #[.val (.ref a), .val (.ref ca), .val (.int (0 : Int32)), .val (.int (0 : Int32)), .val .null, .unset] [(.ref a)])) rfl (hb hby dK4_0_18) t kt) ?_
  have f9 := (Fld.other W8 fc2 (Or.inl (Ne.symm ((ne2 _ f3).1))))
  obtain ⟨T10, X10, e10, st10⟩ := getF X8 hx hZ hown (host := "") (Or.inl (hw _ (List.mem_of_getElem? (i := 26) rfl))) Via.refl e8 f9 (g := (mkF m 20 #[.val (.ref a), .val (.ref ca), .val (.int (0 : Int32)), .val (.int (0 : Int32)), .val .null, .unset] [(.ref a2), (.ref a)])) rfl rfl (hb hby dK4_0_20)
  refine Go.st (S' := T10.setTop (mkF m 23 #[.val (.ref a), .val (.ref ca), .val (.int (0 : Int32)), .val (.int (0 : Int32)), .val .null, .unset] [(.int (0 : Int32)), (.ref a)])) (fun t kt => st10 t kt) ?_
  have f11 := (Fld.other W8 (F_coder.ext E2) (Or.inr (slot_ne (Or.inr (hw _ (List.mem_of_getElem? (i := 27) rfl))) (Or.inr (hw _ (List.mem_of_getElem? (i := 29) rfl))) (by decide) (t := .byte) (t' := (.array .byte)) (by decide) (by decide))))
  have f12 := (Exa.wr W8 f7)
  obtain ⟨T13, h13, X13, e13, W13, st13⟩ := putF X10 hx hZ hown (host := "") (Or.inl (hw _ (List.mem_of_getElem? (i := 26) rfl))) Via.refl e10 f11 f12 (Or.inr ⟨(hw _ (List.mem_of_getElem? (i := 27) rfl)), rfl, hnm⟩) (hw _ (List.mem_of_getElem? (i := 1) rfl)) (ty := .byte) (by decide) rfl rfl (g := (mkF m 23 #[.val (.ref a), .val (.ref ca), .val (.int (0 : Int32)), .val (.int (0 : Int32)), .val .null, .unset] [(.int (0 : Int32)), (.ref a)])) rfl rfl (hb hby dK4_0_23)
  have F13 := Fld.same W13 f11
  have N13 := Fr.snoc X13 N8 ha
  have f14 := (Safe.wr W8 f3 C2.1 f3)
  have C13 := CHr.trans C8 (CHr.wr W13 f14 C8.1)
  have hk := Nat.le_trans hk (Nat.le_of_eq (Wr.size W13).symm)
  have Z13 : n0 ≤ h13.size := by rw [Wr.size W13]; exact Z8
  have K13 := Keep.wr K8 W13 (Or.inl (List.mem_of_getElem? (i := 0) rfl))
  refine Go.st (S' := T13.setTop (mkF m 26 #[.val (.ref a), .val (.ref ca), .val (.int (0 : Int32)), .val (.int (0 : Int32)), .val .null, .unset] [])) (fun t kt => st13 t kt) ?_
  have f15 := (Exa.wr W13 f12)
  have f16 := (Fld.other W13 F8 (Or.inr (slot_ne (Or.inr (hw _ (List.mem_of_getElem? (i := 29) rfl))) (Or.inr (hw _ (List.mem_of_getElem? (i := 27) rfl))) (by decide) (t := (.array .byte)) (t' := .byte) (by decide) (by decide))))
  have f17 := ((fa2.other W8 (Ne.symm ((ne2 _ f3).2))).other W13 (Ne.symm ((ne2 _ f3).2)))
  exact retw_v X13 hZ hEL e13 C13 hS hk hx hlk hret (hb hby dK4_0_26) (by decide) (by decide) (by rw [e13]; exact ⟨_, _, rfl, N13, K13, f15, f16, F13, f17⟩)
theorem dK1_0_0 : decode jdk_42_method_3_code 0 = .ok (.aload_n 0, 1) := by decide +kernel
theorem dK1_0_1 : decode jdk_42_method_3_code 1 = .ok (.aload_n 1, 1) := by decide +kernel
theorem dK1_0_2 : decode jdk_42_method_3_code 2 = .ok (.iconst 0, 1) := by decide +kernel
theorem dK1_0_3 : decode jdk_42_method_3_code 3 = .ok (.aload_n 1, 1) := by decide +kernel
theorem dK1_0_4 : decode jdk_42_method_3_code 4 = .ok (.arraylength, 1) := by decide +kernel
theorem dK1_0_5 : decode jdk_42_method_3_code 5 = .ok (.aconst_null, 1) := by decide +kernel
theorem dK1_0_6 : decode jdk_42_method_3_code 6 = .ok (.invokespecial 27, 3) := by decide +kernel
theorem dK1_0_9 : decode jdk_42_method_3_code 9 = .ok (.return_, 1) := by decide +kernel
theorem ef_rmK1_0 (m : MethodId) (a : Addr) (ca : Addr) : entryFrame m #[(.ref a), (.ref ca)] 2 = mkF m 0 #[.val (.ref a), .val (.ref ca)] [] := by first | exact own_entry rfl | (simp [entryFrame, mkF, argsToLocals, Value.category]; done) | rfl
set_option maxRecDepth 65536 in
set_option maxHeartbeats 40000000 in
theorem rmK1_0 (l : Launch) (Z : State) (a0 : Array Value) (hw : ∀ d ∈ tables_1, d.before a0 Z = true) (a ca : Addr) (kc : ClassId) (h0 : Heap) (n0 : Nat) (Z0 : n0 ≤ h0.size) (E_a : Exa Z h0 a "java/lang/String") (ha : n0 ≤ a) (hca : ca ≠ a) (F_value : Fld Z h0 a "java/lang/String" "value" "[B" .null) (F_coder : Fld Z h0 a "java/lang/String" "coder" "B" (.int (0 : Int32))) (V_c : Arv Z h0 ca kc .char (0 : Int32) [] (.int (0 : Int32))) :
    PaysW l (⟨"java/lang/String", "<init>", "([C)V"⟩ : MethodName) jdk_42_method_3_code 2 none ({ frames := 2, cells := 2, slots := 4, locals := 29 } : Room) Z own_EL #[(.ref a), (.ref ca)] h0 (fun v h L => ∃ d k, v = none ∧ Fr n0 L ∧ Keep h0 h [a] ∧ Exa Z h a "java/lang/String" ∧ Fld Z h a "java/lang/String" "value" "[B" (.ref d) ∧ Fld Z h a "java/lang/String" "coder" "B" (.int (0 : Int32)) ∧ Arv Z h d k .byte (0 : Int32) [] (.int (0 : Int32))) := by
  refine PaysW.of (plainFor_of_name pn_java_lang_String) ?_
  intro pP eE sS m below methM cC T hx hby hml hret hlk hZ0 hown0 hnm eT X C0 hS
  replace hown0 : sS.vm.findClass "java/lang/String" = some m.cls := hown0
  have hown : (sS.setVm sS.vm).vm.findClass "java/lang/String" = some m.cls := hown0
  have hZ : Z.Warmed39 (sS.setVm sS.vm).vm := hZ0
  have hk : 0 ≤ h0.size := Nat.zero_le _
  have hEL := own_ew hw
  have N0 := Fr.nil n0
  have K0 := Keep.refl h0 [a]
  refine Go.cast (ef_rmK1_0 m a ca) ?_
  refine Go.st (S' := T.setTop (mkF m 1 #[.val (.ref a), .val (.ref ca)] [(.ref a)])) (fun t kt => XS.aloadN X.here hx rfl (hb hby dK1_0_0) rfl rfl kt) ?_
  refine Go.st (S' := T.setTop (mkF m 2 #[.val (.ref a), .val (.ref ca)] [(.ref ca), (.ref a)])) (fun t kt => XS.aloadN X.here hx rfl (hb hby dK1_0_1) rfl rfl kt) ?_
  refine Go.st (S' := T.setTop (mkF m 3 #[.val (.ref a), .val (.ref ca)] [(.int (0 : Int32)), (.ref ca), (.ref a)])) (fun t kt => XS.iconst X.here hx rfl (hb hby dK1_0_2) kt) ?_
  refine Go.st (S' := T.setTop (mkF m 4 #[.val (.ref a), .val (.ref ca)] [(.ref ca), (.int (0 : Int32)), (.ref ca), (.ref a)])) (fun t kt => XS.aloadN X.here hx rfl (hb hby dK1_0_3) rfl rfl kt) ?_
  obtain ⟨cl1, Ar1, q1, S1, M1, H1, G1⟩ := id V_c
  refine Go.st (S' := T.setTop (mkF m 5 #[.val (.ref a), .val (.ref ca)] [(.int (0 : Int32)), (.int (0 : Int32)), (.ref ca), (.ref a)])) (fun t kt => own_alen X hx hZ eT Ar1 (len_of S1 M1) rfl (hb hby dK1_0_4) t kt) ?_
  refine Go.st (S' := T.setTop (mkF m 6 #[.val (.ref a), .val (.ref ca)] [.null, (.int (0 : Int32)), (.int (0 : Int32)), (.ref ca), (.ref a)])) (fun t kt => XS.aconstNull X.here hx rfl (hb hby dK1_0_5) kt) ?_
  refine Go.initW X hx hZ hEL C0.1 hS hk rfl hown (hw _ (List.mem_of_getElem? (i := 7) rfl)) (hw _ (List.mem_of_getElem? (i := 8) rfl)) (hw _ (List.mem_of_getElem? (i := 10) rfl)) (hw _ (List.mem_of_getElem? (i := 2) rfl)) (by decide) (b := a) (argsL := [(.ref ca), (.int (0 : Int32)), (.int (0 : Int32)), .null]) (rest := []) (rmK4_0 l Z a0 hw a ca kc h0 n0 Z0 E_a ha hca F_value F_coder V_c) eT rfl (by rw [hml]; rfl) pd___CIILjava_lang_Void__V rfl (hb hby dK1_0_6) 0 (Nat.le_refl _) (by decide) (by decide) (by decide) (by decide) ?_
  intro v2 T2 L2 X2 hQ2 A2 hS
  have hk : T2.heap.size ≤ T2.heap.size := Nat.le_refl _
  have hZ := own_hZ hZ0 hS
  have hown := own_hown hown0 hS
  obtain ⟨d2, k2, hv2, N2', K2', f2_0, f2_1, f2_2, f2_3⟩ := hQ2
  subst hv2
  have N2 := Fr.app N0 N2'
  have Z2 : n0 ≤ T2.heap.size := Nat.le_trans Z0 K2'.1
  have eh2 : T2.heap = T2.heap := rfl
  have C2 := CHr.trans C0 A2
  have K2 := Keep.trans K0 K2' (allS (Or.inl (List.mem_of_getElem? (i := 0) rfl)) all0)
  show Go pP eE below _ (T2.setTop (mkF m 9 #[.val (.ref a), .val (.ref ca)] []))
  exact retw_v X2 hZ hEL eh2 C2 hS hk hx hlk hret (hb hby dK1_0_9) (by decide) (by decide) (by rw [eh2]; exact ⟨_, _, rfl, N2, K2, f2_0, f2_1, f2_2, f2_3⟩)
theorem d2_0 : decode prog_6_method_1_code 0 = .ok (.aload_n 0, 1) := by decide +kernel
theorem d2_1 : decode prog_6_method_1_code 1 = .ok (.invokespecial 1, 3) := by decide +kernel
theorem d2_4 : decode prog_6_method_1_code 4 = .ok (.aload_n 0, 1) := by decide +kernel
theorem d2_5 : decode prog_6_method_1_code 5 = .ok (.aload_n 1, 1) := by decide +kernel
theorem d2_6 : decode prog_6_method_1_code 6 = .ok (.putfield 7, 3) := by decide +kernel
theorem d2_9 : decode prog_6_method_1_code 9 = .ok (.aload_n 0, 1) := by decide +kernel
theorem d2_10 : decode prog_6_method_1_code 10 = .ok (.iload_n 2, 1) := by decide +kernel
theorem d2_11 : decode prog_6_method_1_code 11 = .ok (.putfield 13, 3) := by decide +kernel
theorem d2_14 : decode prog_6_method_1_code 14 = .ok (.aload_n 0, 1) := by decide +kernel
theorem d2_15 : decode prog_6_method_1_code 15 = .ok (.iload_n 3, 1) := by decide +kernel
theorem d2_16 : decode prog_6_method_1_code 16 = .ok (.putfield 17, 3) := by decide +kernel
theorem d2_19 : decode prog_6_method_1_code 19 = .ok (.return_, 1) := by decide +kernel
theorem pn_com_example_seatwright_seatwright_engine_Bucket : plainName "com/example/seatwright/seatwright/engine/Bucket" = true := by first | (simp [plainName, overriddenIn]; done) | decide +kernel
theorem ef_rm2 (m : MethodId) (a : Addr) (u : Value) (sz : Int32) (iu : Int32) (hu : u.isRef = true) : entryFrame m #[(.ref a), u, (.int sz), (.int iu)] 4 = mkF m 0 #[.val (.ref a), .val u, .val (.int sz), .val (.int iu)] [] := by rcases XT.refc hu with rfl | ⟨_, rfl⟩ <;> exact own_entry rfl
set_option maxRecDepth 65536 in
set_option maxHeartbeats 40000000 in
theorem rm2 (l : Launch) (Z : State) (a0 : Array Value) (hw : ∀ d ∈ tables_1, d.before a0 Z = true) (a : Addr) (u : Value) (hu : u.isRef = true) (sz iu : Int32) (h0 : Heap) (n0 : Nat) (Z0 : n0 ≤ h0.size) (E_a : Exa Z h0 a "com/example/seatwright/seatwright/engine/Bucket") (ha : n0 ≤ a) (F_unit : Fld Z h0 a "com/example/seatwright/seatwright/engine/Bucket" "unit" "Ljava/lang/String;" .null) (F_size : Fld Z h0 a "com/example/seatwright/seatwright/engine/Bucket" "size" "I" (.int (0 : Int32))) (F_inUse : Fld Z h0 a "com/example/seatwright/seatwright/engine/Bucket" "inUse" "I" (.int (0 : Int32))) (F_above : Fld Z h0 a "com/example/seatwright/seatwright/engine/Bucket" "above" "Lcom/example/seatwright/seatwright/engine/Bucket;" .null) :
    Pays l (⟨"com/example/seatwright/seatwright/engine/Bucket", "<init>", "(Ljava/lang/String;II)V"⟩ : MethodName) prog_6_method_1_code 4 none ({ frames := 1, cells := 0, slots := 0, locals := 12 } : Room) Z #[(.ref a), u, (.int sz), (.int iu)] h0 (fun v h L => v = none ∧ Fr n0 L ∧ Keep h0 h [a] ∧ Exa Z h a "com/example/seatwright/seatwright/engine/Bucket" ∧ Fld Z h a "com/example/seatwright/seatwright/engine/Bucket" "unit" "Ljava/lang/String;" u ∧ Fld Z h a "com/example/seatwright/seatwright/engine/Bucket" "size" "I" (.int sz) ∧ Fld Z h a "com/example/seatwright/seatwright/engine/Bucket" "inUse" "I" (.int iu) ∧ Fld Z h a "com/example/seatwright/seatwright/engine/Bucket" "above" "Lcom/example/seatwright/seatwright/engine/Bucket;" .null) := by
  refine Pays.of (plainFor_of_name pn_com_example_seatwright_seatwright_engine_Bucket) ?_
  intro pP eE sS m below methM cC T hx hby hml hret hlk hZ hown hnm eT X
  replace hown : sS.vm.findClass "com/example/seatwright/seatwright/engine/Bucket" = some m.cls := hown
  have N0 := Fr.nil n0
  have K0 := Keep.refl h0 [a]
  refine Go.cast (ef_rm2 m a u sz iu hu) ?_
  refine Go.st (S' := T.setTop (mkF m 1 #[.val (.ref a), .val u, .val (.int sz), .val (.int iu)] [(.ref a)])) (fun t kt => XS.aloadN X.here hx rfl (hb hby d2_0) rfl rfl kt) ?_
  obtain ⟨T1, X1, e1, st1⟩ := initO X hx hZ hown (hw _ (List.mem_of_getElem? (i := 36) rfl)) (hw _ (List.mem_of_getElem? (i := 12) rfl)) (hw _ (List.mem_of_getElem? (i := 13) rfl)) eT (g := (mkF m 1 #[.val (.ref a), .val u, .val (.int sz), .val (.int iu)] [(.ref a)])) rfl (by rw [hml]; rfl) rfl (hb hby d2_1) (by decide) (W := 0) (by show 2 * 0 + _ ≤ _; exact Nat.le_of_eq rfl) (by decide)
  refine Go.st (S' := T1.setTop (mkF m 4 #[.val (.ref a), .val u, .val (.int sz), .val (.int iu)] [])) (fun t kt => st1 t kt) ?_
  refine Go.st (S' := T1.setTop (mkF m 5 #[.val (.ref a), .val u, .val (.int sz), .val (.int iu)] [(.ref a)])) (fun t kt => XS.aloadN X1.here hx rfl (hb hby d2_4) rfl rfl kt) ?_
  refine Go.st (S' := T1.setTop (mkF m 6 #[.val (.ref a), .val u, .val (.int sz), .val (.int iu)] [u, (.ref a)])) (fun t kt => XS.aloadN X1.here hx rfl (hb hby d2_5) rfl hu kt) ?_
  obtain ⟨T2, h2, X2, e2, W2, st2⟩ := putF X1 hx hZ hown (host := "") (Or.inl (hw _ (List.mem_of_getElem? (i := 37) rfl))) Via.refl e1 F_unit E_a (Or.inr ⟨(hw _ (List.mem_of_getElem? (i := 38) rfl)), rfl, hnm⟩) (hw _ (List.mem_of_getElem? (i := 31) rfl)) (ty := (.object "java/lang/String")) (by decide) (own_nar_ref hu) (own_fit_ref hu) (g := (mkF m 6 #[.val (.ref a), .val u, .val (.int sz), .val (.int iu)] [u, (.ref a)])) rfl rfl (hb hby d2_6)
  have F2 := Fld.same W2 F_unit
  have N2 := Fr.snoc X2 N0 ha
  have Z2 : n0 ≤ h2.size := by rw [Wr.size W2]; exact Z0
  have K2 := Keep.wr K0 W2 (Or.inl (List.mem_of_getElem? (i := 0) rfl))
  refine Go.st (S' := T2.setTop (mkF m 9 #[.val (.ref a), .val u, .val (.int sz), .val (.int iu)] [])) (fun t kt => st2 t kt) ?_
  refine Go.st (S' := T2.setTop (mkF m 10 #[.val (.ref a), .val u, .val (.int sz), .val (.int iu)] [(.ref a)])) (fun t kt => XS.aloadN X2.here hx rfl (hb hby d2_9) rfl rfl kt) ?_
  refine Go.st (S' := T2.setTop (mkF m 11 #[.val (.ref a), .val u, .val (.int sz), .val (.int iu)] [(.int sz), (.ref a)])) (fun t kt => XS.iloadN X2.here hx rfl (hb hby d2_10) rfl kt) ?_
  have f3 := (Fld.other W2 F_size (Or.inr (slot_ne (Or.inr (hw _ (List.mem_of_getElem? (i := 40) rfl))) (Or.inr (hw _ (List.mem_of_getElem? (i := 38) rfl))) (by decide) (t := .int) (t' := (.object "java/lang/String")) (by decide) (by decide))))
  have f4 := (Exa.wr W2 E_a)
  obtain ⟨T5, h5, X5, e5, W5, st5⟩ := putF X2 hx hZ hown (host := "") (Or.inl (hw _ (List.mem_of_getElem? (i := 39) rfl))) Via.refl e2 f3 f4 (Or.inr ⟨(hw _ (List.mem_of_getElem? (i := 40) rfl)), rfl, hnm⟩) (hw _ (List.mem_of_getElem? (i := 31) rfl)) (ty := .int) (by decide) rfl rfl (g := (mkF m 11 #[.val (.ref a), .val u, .val (.int sz), .val (.int iu)] [(.int sz), (.ref a)])) rfl rfl (hb hby d2_11)
  have F5 := Fld.same W5 f3
  have N5 := Fr.snoc X5 N2 ha
  have Z5 : n0 ≤ h5.size := by rw [Wr.size W5]; exact Z2
  have K5 := Keep.wr K2 W5 (Or.inl (List.mem_of_getElem? (i := 0) rfl))
  refine Go.st (S' := T5.setTop (mkF m 14 #[.val (.ref a), .val u, .val (.int sz), .val (.int iu)] [])) (fun t kt => st5 t kt) ?_
  refine Go.st (S' := T5.setTop (mkF m 15 #[.val (.ref a), .val u, .val (.int sz), .val (.int iu)] [(.ref a)])) (fun t kt => XS.aloadN X5.here hx rfl (hb hby d2_14) rfl rfl kt) ?_
  refine Go.st (S' := T5.setTop (mkF m 16 #[.val (.ref a), .val u, .val (.int sz), .val (.int iu)] [(.int iu), (.ref a)])) (fun t kt => XS.iloadN X5.here hx rfl (hb hby d2_15) rfl kt) ?_
  have f6 := (Fld.other W5 (Fld.other W2 F_inUse (Or.inr (slot_ne (Or.inl (hw _ (List.mem_of_getElem? (i := 42) rfl))) (Or.inr (hw _ (List.mem_of_getElem? (i := 38) rfl))) (by decide) (t := .int) (t' := (.object "java/lang/String")) (by decide) (by decide)))) (Or.inr (slot_ne (Or.inl (hw _ (List.mem_of_getElem? (i := 42) rfl))) (Or.inr (hw _ (List.mem_of_getElem? (i := 40) rfl))) (by decide) (t := .int) (t' := .int) (by decide) (by decide))))
  have f7 := (Exa.wr W5 f4)
  obtain ⟨T8, h8, X8, e8, W8, st8⟩ := putF X5 hx hZ hown (host := "") (Or.inl (hw _ (List.mem_of_getElem? (i := 41) rfl))) Via.refl e5 f6 f7 (Or.inl (hw _ (List.mem_of_getElem? (i := 42) rfl))) (hw _ (List.mem_of_getElem? (i := 31) rfl)) (ty := .int) (by decide) rfl rfl (g := (mkF m 16 #[.val (.ref a), .val u, .val (.int sz), .val (.int iu)] [(.int iu), (.ref a)])) rfl rfl (hb hby d2_16)
  have F8 := Fld.same W8 f6
  have N8 := Fr.snoc X8 N5 ha
  have Z8 : n0 ≤ h8.size := by rw [Wr.size W8]; exact Z5
  have K8 := Keep.wr K5 W8 (Or.inl (List.mem_of_getElem? (i := 0) rfl))
  refine Go.st (S' := T8.setTop (mkF m 19 #[.val (.ref a), .val u, .val (.int sz), .val (.int iu)] [])) (fun t kt => st8 t kt) ?_
  have f9 := (Exa.wr W8 f7)
  have f10 := (Fld.other W8 (Fld.other W5 F2 (Or.inr (slot_ne (Or.inr (hw _ (List.mem_of_getElem? (i := 38) rfl))) (Or.inr (hw _ (List.mem_of_getElem? (i := 40) rfl))) (by decide) (t := (.object "java/lang/String")) (t' := .int) (by decide) (by decide)))) (Or.inr (slot_ne (Or.inr (hw _ (List.mem_of_getElem? (i := 38) rfl))) (Or.inl (hw _ (List.mem_of_getElem? (i := 42) rfl))) (by decide) (t := (.object "java/lang/String")) (t' := .int) (by decide) (by decide))))
  have f11 := (Fld.other W8 F5 (Or.inr (slot_ne (Or.inr (hw _ (List.mem_of_getElem? (i := 40) rfl))) (Or.inl (hw _ (List.mem_of_getElem? (i := 42) rfl))) (by decide) (t := .int) (t' := .int) (by decide) (by decide))))
  have f12 := (Fld.other W8 (Fld.other W5 (Fld.other W2 F_above (Or.inr (slot_ne (Or.inl (hw _ (List.mem_of_getElem? (i := 71) rfl))) (Or.inr (hw _ (List.mem_of_getElem? (i := 38) rfl))) (by decide) (t := (.object "com/example/seatwright/seatwright/engine/Bucket")) (t' := (.object "java/lang/String")) (by decide) (by decide)))) (Or.inr (slot_ne (Or.inl (hw _ (List.mem_of_getElem? (i := 71) rfl))) (Or.inr (hw _ (List.mem_of_getElem? (i := 40) rfl))) (by decide) (t := (.object "com/example/seatwright/seatwright/engine/Bucket")) (t' := .int) (by decide) (by decide)))) (Or.inr (slot_ne (Or.inl (hw _ (List.mem_of_getElem? (i := 71) rfl))) (Or.inl (hw _ (List.mem_of_getElem? (i := 42) rfl))) (by decide) (t := (.object "com/example/seatwright/seatwright/engine/Bucket")) (t' := .int) (by decide) (by decide))))
  exact ret_v X8 hx hlk hret (hb hby d2_19) (by decide) (by decide) (by rw [e8]; exact ⟨rfl, N8, K8, f9, f10, f11, F8, f12⟩)
theorem d3_0 : decode prog_6_method_11_code 0 = .ok (.new 8, 3) := by decide +kernel
theorem d3_3 : decode prog_6_method_11_code 3 = .ok (.dup, 1) := by decide +kernel
theorem d3_4 : decode prog_6_method_11_code 4 = .ok (.aload_n 0, 1) := by decide +kernel
theorem d3_5 : decode prog_6_method_11_code 5 = .ok (.getfield 7, 3) := by decide +kernel
theorem d3_8 : decode prog_6_method_11_code 8 = .ok (.aload_n 0, 1) := by decide +kernel
theorem d3_9 : decode prog_6_method_11_code 9 = .ok (.getfield 13, 3) := by decide +kernel
theorem d3_12 : decode prog_6_method_11_code 12 = .ok (.aload_n 0, 1) := by decide +kernel
theorem d3_13 : decode prog_6_method_11_code 13 = .ok (.getfield 17, 3) := by decide +kernel
theorem d3_16 : decode prog_6_method_11_code 16 = .ok (.invokespecial 28, 3) := by decide +kernel
theorem d3_19 : decode prog_6_method_11_code 19 = .ok (.areturn, 1) := by decide +kernel
theorem pd__Ljava_lang_String_II_V : parseMethodDescriptor "(Ljava/lang/String;II)V" = some ⟨[(.object "java/lang/String"), .int, .int], none⟩ := by decide +kernel
theorem ef_rm3 (m : MethodId) (a : Addr) : entryFrame m #[(.ref a)] 1 = mkF m 0 #[.val (.ref a)] [] := by first | exact own_entry rfl | (simp [entryFrame, mkF, argsToLocals, Value.category]; done) | rfl
set_option maxRecDepth 65536 in
set_option maxHeartbeats 40000000 in
theorem rm3 (l : Launch) (Z : State) (a0 : Array Value) (hw : ∀ d ∈ tables_1, d.before a0 Z = true) (a : Addr) (u : Value) (hu : u.isRef = true) (sz iu : Int32) (ab : Value) (hab : ab.isRef = true) (h0 : Heap) (n0 : Nat) (Z0 : n0 ≤ h0.size) (E_a : Exa Z h0 a "com/example/seatwright/seatwright/engine/Bucket") (ha : n0 ≤ a) (F_unit : Fld Z h0 a "com/example/seatwright/seatwright/engine/Bucket" "unit" "Ljava/lang/String;" u) (F_size : Fld Z h0 a "com/example/seatwright/seatwright/engine/Bucket" "size" "I" (.int sz)) (F_inUse : Fld Z h0 a "com/example/seatwright/seatwright/engine/Bucket" "inUse" "I" (.int iu)) (F_above : Fld Z h0 a "com/example/seatwright/seatwright/engine/Bucket" "above" "Lcom/example/seatwright/seatwright/engine/Bucket;" ab) :
    Pays l (⟨"com/example/seatwright/seatwright/engine/Bucket", "copy", "()Lcom/example/seatwright/seatwright/engine/Bucket;"⟩ : MethodName) prog_6_method_11_code 1 (some (.object "com/example/seatwright/seatwright/engine/Bucket")) ({ frames := 2, cells := 1, slots := 4, locals := 28 } : Room) Z #[(.ref a)] h0 (fun v h L => ∃ b, v = some (.ref b) ∧ Fr n0 L ∧ Keep h0 h [] ∧ h0.size ≤ b ∧ n0 ≤ b ∧ Exa Z h b "com/example/seatwright/seatwright/engine/Bucket" ∧ Fld Z h b "com/example/seatwright/seatwright/engine/Bucket" "unit" "Ljava/lang/String;" u ∧ Fld Z h b "com/example/seatwright/seatwright/engine/Bucket" "size" "I" (.int sz) ∧ Fld Z h b "com/example/seatwright/seatwright/engine/Bucket" "inUse" "I" (.int iu) ∧ Fld Z h b "com/example/seatwright/seatwright/engine/Bucket" "above" "Lcom/example/seatwright/seatwright/engine/Bucket;" .null) := by
  refine Pays.of (plainFor_of_name pn_com_example_seatwright_seatwright_engine_Bucket) ?_
  intro pP eE sS m below methM cC T hx hby hml hret hlk hZ hown hnm eT X
  replace hown : sS.vm.findClass "com/example/seatwright/seatwright/engine/Bucket" = some m.cls := hown
  have N0 := Fr.nil n0
  have K0 := Keep.refl h0 ([] : List Addr)
  refine Go.cast (ef_rm3 m a) ?_
  obtain ⟨T1, h1, X1, e1, E1, A1, D1, -, st1⟩ := newO X hx hZ hown (hw _ (List.mem_of_getElem? (i := 48) rfl)) (hw _ (List.mem_of_getElem? (i := 31) rfl)) (hw _ (List.mem_of_getElem? (i := 32) rfl)) eT (g := (mkF m 0 #[.val (.ref a)] [])) rfl (hb hby d3_0) (by decide) (by decide)
  obtain ⟨a1, g1⟩ : ∃ z, z = h0.size := ⟨_, rfl⟩
  rw [← g1] at A1 D1 st1
  have Z1 : n0 ≤ h1.size := Nat.le_trans Z0 E1.1
  have F1_unit : Fld Z h1 a1 "com/example/seatwright/seatwright/engine/Bucket" "unit" "Ljava/lang/String;" .null := D1 (Or.inr (hw _ (List.mem_of_getElem? (i := 38) rfl))) (ty := (.object "java/lang/String")) (by decide)
  have F1_size : Fld Z h1 a1 "com/example/seatwright/seatwright/engine/Bucket" "size" "I" (.int (0 : Int32)) := D1 (Or.inr (hw _ (List.mem_of_getElem? (i := 40) rfl))) (ty := .int) (by decide)
  have F1_inUse : Fld Z h1 a1 "com/example/seatwright/seatwright/engine/Bucket" "inUse" "I" (.int (0 : Int32)) := D1 (Or.inl (hw _ (List.mem_of_getElem? (i := 42) rfl))) (ty := .int) (by decide)
  have F1_above : Fld Z h1 a1 "com/example/seatwright/seatwright/engine/Bucket" "above" "Lcom/example/seatwright/seatwright/engine/Bucket;" .null := D1 (Or.inl (hw _ (List.mem_of_getElem? (i := 71) rfl))) (ty := (.object "com/example/seatwright/seatwright/engine/Bucket")) (by decide)
  have K1 := Keep.ext K0 E1
  have sz_a1 : h0.size ≤ a1 := Nat.le_trans K0.1 (Nat.le_of_eq g1.symm)
  refine Go.st (S' := T1.setTop (mkF m 3 #[.val (.ref a)] [(.ref a1)])) (fun t kt => st1 t kt) ?_
  refine Go.st (S' := T1.setTop (mkF m 4 #[.val (.ref a)] [(.ref a1), (.ref a1)])) (fun t kt => XS.dup X1.here hx rfl (hb hby d3_3) rfl rfl kt) ?_
  refine Go.st (S' := T1.setTop (mkF m 5 #[.val (.ref a)] [(.ref a), (.ref a1), (.ref a1)])) (fun t kt => XS.aloadN X1.here hx rfl (hb hby d3_4) rfl rfl kt) ?_
  have f2 := (F_unit.ext E1)
  obtain ⟨T3, X3, e3, st3⟩ := getF X1 hx hZ hown (host := "") (Or.inl (hw _ (List.mem_of_getElem? (i := 37) rfl))) Via.refl e1 f2 (g := (mkF m 5 #[.val (.ref a)] [(.ref a), (.ref a1), (.ref a1)])) rfl rfl (hb hby d3_5)
  refine Go.st (S' := T3.setTop (mkF m 8 #[.val (.ref a)] [u, (.ref a1), (.ref a1)])) (fun t kt => st3 t kt) ?_
  refine Go.st (S' := T3.setTop (mkF m 9 #[.val (.ref a)] [(.ref a), u, (.ref a1), (.ref a1)])) (fun t kt => XS.aloadN X3.here hx rfl (hb hby d3_8) rfl rfl kt) ?_
  have f4 := (F_size.ext E1)
  obtain ⟨T5, X5, e5, st5⟩ := getF X3 hx hZ hown (host := "") (Or.inl (hw _ (List.mem_of_getElem? (i := 39) rfl))) Via.refl e3 f4 (g := (mkF m 9 #[.val (.ref a)] [(.ref a), u, (.ref a1), (.ref a1)])) rfl rfl (hb hby d3_9)
  refine Go.st (S' := T5.setTop (mkF m 12 #[.val (.ref a)] [(.int sz), u, (.ref a1), (.ref a1)])) (fun t kt => st5 t kt) ?_
  refine Go.st (S' := T5.setTop (mkF m 13 #[.val (.ref a)] [(.ref a), (.int sz), u, (.ref a1), (.ref a1)])) (fun t kt => XS.aloadN X5.here hx rfl (hb hby d3_12) rfl rfl kt) ?_
  have f6 := (F_inUse.ext E1)
  obtain ⟨T7, X7, e7, st7⟩ := getF X5 hx hZ hown (host := "") (Or.inl (hw _ (List.mem_of_getElem? (i := 41) rfl))) Via.refl e5 f6 (g := (mkF m 13 #[.val (.ref a)] [(.ref a), (.int sz), u, (.ref a1), (.ref a1)])) rfl rfl (hb hby d3_13)
  refine Go.st (S' := T7.setTop (mkF m 16 #[.val (.ref a)] [(.int iu), (.int sz), u, (.ref a1), (.ref a1)])) (fun t kt => st7 t kt) ?_
  refine Go.init X7 hx hZ rfl hown (hw _ (List.mem_of_getElem? (i := 49) rfl)) (hw _ (List.mem_of_getElem? (i := 34) rfl)) (hw _ (List.mem_of_getElem? (i := 35) rfl)) (hw _ (List.mem_of_getElem? (i := 32) rfl)) (by decide) (b := a1) (argsL := [u, (.int sz), (.int iu)]) (rest := [(.ref a1)]) (rm2 l Z a0 hw a1 u hu sz iu h1 n0 Z1 A1 (Nat.le_trans Z0 (Nat.le_of_eq g1.symm)) F1_unit F1_size F1_inUse F1_above) e7 rfl (by rw [hml]; rfl) pd__Ljava_lang_String_II_V rfl (hb hby d3_16) 1 (Nat.le_refl _) (by decide) (by decide) (by decide) (by decide) ?_
  intro v8 T8 L8 X8 hQ8
  have f9 := (E_a.ext E1)
  obtain ⟨hv8, N8', K8', f8_0, f8_1, f8_2, f8_3, f8_4⟩ := hQ8
  subst hv8
  have N8 := Fr.app N0 N8'
  have Z8 : n0 ≤ T8.heap.size := Nat.le_trans Z1 K8'.1
  have eh8 : T8.heap = T8.heap := rfl
  have K8 := Keep.trans K1 K8' (allS (Or.inr sz_a1) all0)
  show Go pP eE below _ (T8.setTop (mkF m 19 #[.val (.ref a)] [(.ref a1)]))
  exact ret_a X8 hx hlk hret rfl rfl (hb hby d3_19) (by decide) (by decide) (by rw [eh8]; exact ⟨_, rfl, N8, K8, sz_a1, (Nat.le_trans Z0 (Nat.le_of_eq g1.symm)), f8_0, f8_1, f8_2, f8_3, f8_4⟩)
theorem d4_0 : decode prog_6_method_7_code 0 = .ok (.aload_n 0, 1) := by decide +kernel
theorem d4_1 : decode prog_6_method_7_code 1 = .ok (.dup, 1) := by decide +kernel
theorem d4_2 : decode prog_6_method_7_code 2 = .ok (.getfield 17, 3) := by decide +kernel
theorem d4_5 : decode prog_6_method_7_code 5 = .ok (.iconst 1, 1) := by decide +kernel
theorem d4_6 : decode prog_6_method_7_code 6 = .ok (.iadd, 1) := by decide +kernel
theorem d4_7 : decode prog_6_method_7_code 7 = .ok (.putfield 17, 3) := by decide +kernel
theorem d4_10 : decode prog_6_method_7_code 10 = .ok (.return_, 1) := by decide +kernel
theorem ef_rm4 (m : MethodId) (a : Addr) : entryFrame m #[(.ref a)] 1 = mkF m 0 #[.val (.ref a)] [] := by first | exact own_entry rfl | (simp [entryFrame, mkF, argsToLocals, Value.category]; done) | rfl
set_option maxRecDepth 65536 in
set_option maxHeartbeats 40000000 in
theorem rm4 (l : Launch) (Z : State) (a0 : Array Value) (hw : ∀ d ∈ tables_1, d.before a0 Z = true) (a : Addr) (u : Value) (hu : u.isRef = true) (sz iu : Int32) (ab : Value) (hab : ab.isRef = true) (h0 : Heap) (n0 : Nat) (Z0 : n0 ≤ h0.size) (E_a : Exa Z h0 a "com/example/seatwright/seatwright/engine/Bucket") (ha : n0 ≤ a) (F_unit : Fld Z h0 a "com/example/seatwright/seatwright/engine/Bucket" "unit" "Ljava/lang/String;" u) (F_size : Fld Z h0 a "com/example/seatwright/seatwright/engine/Bucket" "size" "I" (.int sz)) (F_inUse : Fld Z h0 a "com/example/seatwright/seatwright/engine/Bucket" "inUse" "I" (.int iu)) (F_above : Fld Z h0 a "com/example/seatwright/seatwright/engine/Bucket" "above" "Lcom/example/seatwright/seatwright/engine/Bucket;" ab) :
    Pays l (⟨"com/example/seatwright/seatwright/engine/Bucket", "take", "()V"⟩ : MethodName) prog_6_method_7_code 1 none ({ frames := 0, cells := 0, slots := 0, locals := 0 } : Room) Z #[(.ref a)] h0 (fun v h L => v = none ∧ Fr n0 L ∧ Keep h0 h [a] ∧ Exa Z h a "com/example/seatwright/seatwright/engine/Bucket" ∧ Fld Z h a "com/example/seatwright/seatwright/engine/Bucket" "unit" "Ljava/lang/String;" u ∧ Fld Z h a "com/example/seatwright/seatwright/engine/Bucket" "size" "I" (.int sz) ∧ Fld Z h a "com/example/seatwright/seatwright/engine/Bucket" "inUse" "I" (.int (iu + (1 : Int32))) ∧ Fld Z h a "com/example/seatwright/seatwright/engine/Bucket" "above" "Lcom/example/seatwright/seatwright/engine/Bucket;" ab) := by
  refine Pays.of (plainFor_of_name pn_com_example_seatwright_seatwright_engine_Bucket) ?_
  intro pP eE sS m below methM cC T hx hby hml hret hlk hZ hown hnm eT X
  replace hown : sS.vm.findClass "com/example/seatwright/seatwright/engine/Bucket" = some m.cls := hown
  have N0 := Fr.nil n0
  have K0 := Keep.refl h0 [a]
  refine Go.cast (ef_rm4 m a) ?_
  refine Go.st (S' := T.setTop (mkF m 1 #[.val (.ref a)] [(.ref a)])) (fun t kt => XS.aloadN X.here hx rfl (hb hby d4_0) rfl rfl kt) ?_
  refine Go.st (S' := T.setTop (mkF m 2 #[.val (.ref a)] [(.ref a), (.ref a)])) (fun t kt => XS.dup X.here hx rfl (hb hby d4_1) rfl rfl kt) ?_
  obtain ⟨T1, X1, e1, st1⟩ := getF X hx hZ hown (host := "") (Or.inl (hw _ (List.mem_of_getElem? (i := 41) rfl))) Via.refl eT F_inUse (g := (mkF m 2 #[.val (.ref a)] [(.ref a), (.ref a)])) rfl rfl (hb hby d4_2)
  refine Go.st (S' := T1.setTop (mkF m 5 #[.val (.ref a)] [(.int iu), (.ref a)])) (fun t kt => st1 t kt) ?_
  refine Go.st (S' := T1.setTop (mkF m 6 #[.val (.ref a)] [(.int (1 : Int32)), (.int iu), (.ref a)])) (fun t kt => XS.iconst X1.here hx rfl (hb hby d4_5) kt) ?_
  refine Go.st (S' := T1.setTop (mkF m 7 #[.val (.ref a)] [(.int (iu + (1 : Int32))), (.ref a)])) (fun t kt => XS.iadd X1.here hx rfl (hb hby d4_6) rfl kt) ?_
  obtain ⟨T2, h2, X2, e2, W2, st2⟩ := putF X1 hx hZ hown (host := "") (Or.inl (hw _ (List.mem_of_getElem? (i := 41) rfl))) Via.refl e1 F_inUse E_a (Or.inl (hw _ (List.mem_of_getElem? (i := 42) rfl))) (hw _ (List.mem_of_getElem? (i := 31) rfl)) (ty := .int) (by decide) rfl rfl (g := (mkF m 7 #[.val (.ref a)] [(.int (iu + (1 : Int32))), (.ref a)])) rfl rfl (hb hby d4_7)
  have F2 := Fld.same W2 F_inUse
  have N2 := Fr.snoc X2 N0 ha
  have Z2 : n0 ≤ h2.size := by rw [Wr.size W2]; exact Z0
  have K2 := Keep.wr K0 W2 (Or.inl (List.mem_of_getElem? (i := 0) rfl))
  refine Go.st (S' := T2.setTop (mkF m 10 #[.val (.ref a)] [])) (fun t kt => st2 t kt) ?_
  have f3 := (Exa.wr W2 E_a)
  have f4 := (Fld.other W2 F_unit (Or.inr (slot_ne (Or.inr (hw _ (List.mem_of_getElem? (i := 38) rfl))) (Or.inl (hw _ (List.mem_of_getElem? (i := 42) rfl))) (by decide) (t := (.object "java/lang/String")) (t' := .int) (by decide) (by decide))))
  have f5 := (Fld.other W2 F_size (Or.inr (slot_ne (Or.inr (hw _ (List.mem_of_getElem? (i := 40) rfl))) (Or.inl (hw _ (List.mem_of_getElem? (i := 42) rfl))) (by decide) (t := .int) (t' := .int) (by decide) (by decide))))
  have f6 := (Fld.other W2 F_above (Or.inr (slot_ne (Or.inl (hw _ (List.mem_of_getElem? (i := 71) rfl))) (Or.inl (hw _ (List.mem_of_getElem? (i := 42) rfl))) (by decide) (t := (.object "com/example/seatwright/seatwright/engine/Bucket")) (t' := .int) (by decide) (by decide))))
  exact ret_v X2 hx hlk hret (hb hby d4_10) (by decide) (by decide) (by rw [e2]; exact ⟨rfl, N2, K2, f3, f4, f5, F2, f6⟩)
theorem d5_0 : decode prog_6_method_10_code 0 = .ok (.aload_n 0, 1) := by decide +kernel
theorem d5_1 : decode prog_6_method_10_code 1 = .ok (.aload_n 1, 1) := by decide +kernel
theorem d5_2 : decode prog_6_method_10_code 2 = .ok (.putfield 24, 3) := by decide +kernel
theorem d5_5 : decode prog_6_method_10_code 5 = .ok (.return_, 1) := by decide +kernel
theorem ef_rm5 (m : MethodId) (a : Addr) (b : Addr) : entryFrame m #[(.ref a), (.ref b)] 2 = mkF m 0 #[.val (.ref a), .val (.ref b)] [] := by first | exact own_entry rfl | (simp [entryFrame, mkF, argsToLocals, Value.category]; done) | rfl
set_option maxRecDepth 65536 in
set_option maxHeartbeats 40000000 in
theorem rm5 (l : Launch) (Z : State) (a0 : Array Value) (hw : ∀ d ∈ tables_1, d.before a0 Z = true) (a : Addr) (u : Value) (hu : u.isRef = true) (sz iu : Int32) (ab : Value) (hab : ab.isRef = true) (b : Addr) (h0 : Heap) (n0 : Nat) (Z0 : n0 ≤ h0.size) (E_a : Exa Z h0 a "com/example/seatwright/seatwright/engine/Bucket") (ha : n0 ≤ a) (F_unit : Fld Z h0 a "com/example/seatwright/seatwright/engine/Bucket" "unit" "Ljava/lang/String;" u) (F_size : Fld Z h0 a "com/example/seatwright/seatwright/engine/Bucket" "size" "I" (.int sz)) (F_inUse : Fld Z h0 a "com/example/seatwright/seatwright/engine/Bucket" "inUse" "I" (.int iu)) (F_above : Fld Z h0 a "com/example/seatwright/seatwright/engine/Bucket" "above" "Lcom/example/seatwright/seatwright/engine/Bucket;" ab) :
    Pays l (⟨"com/example/seatwright/seatwright/engine/Bucket", "placeUnder", "(Lcom/example/seatwright/seatwright/engine/Bucket;)V"⟩ : MethodName) prog_6_method_10_code 2 none ({ frames := 0, cells := 0, slots := 0, locals := 0 } : Room) Z #[(.ref a), (.ref b)] h0 (fun v h L => v = none ∧ Fr n0 L ∧ Keep h0 h [a] ∧ Exa Z h a "com/example/seatwright/seatwright/engine/Bucket" ∧ Fld Z h a "com/example/seatwright/seatwright/engine/Bucket" "unit" "Ljava/lang/String;" u ∧ Fld Z h a "com/example/seatwright/seatwright/engine/Bucket" "size" "I" (.int sz) ∧ Fld Z h a "com/example/seatwright/seatwright/engine/Bucket" "inUse" "I" (.int iu) ∧ Fld Z h a "com/example/seatwright/seatwright/engine/Bucket" "above" "Lcom/example/seatwright/seatwright/engine/Bucket;" (.ref b)) := by
  refine Pays.of (plainFor_of_name pn_com_example_seatwright_seatwright_engine_Bucket) ?_
  intro pP eE sS m below methM cC T hx hby hml hret hlk hZ hown hnm eT X
  replace hown : sS.vm.findClass "com/example/seatwright/seatwright/engine/Bucket" = some m.cls := hown
  have N0 := Fr.nil n0
  have K0 := Keep.refl h0 [a]
  refine Go.cast (ef_rm5 m a b) ?_
  refine Go.st (S' := T.setTop (mkF m 1 #[.val (.ref a), .val (.ref b)] [(.ref a)])) (fun t kt => XS.aloadN X.here hx rfl (hb hby d5_0) rfl rfl kt) ?_
  refine Go.st (S' := T.setTop (mkF m 2 #[.val (.ref a), .val (.ref b)] [(.ref b), (.ref a)])) (fun t kt => XS.aloadN X.here hx rfl (hb hby d5_1) rfl rfl kt) ?_
  obtain ⟨T1, h1, X1, e1, W1, st1⟩ := putF X hx hZ hown (host := "") (Or.inl (hw _ (List.mem_of_getElem? (i := 70) rfl))) Via.refl eT F_above E_a (Or.inl (hw _ (List.mem_of_getElem? (i := 71) rfl))) (hw _ (List.mem_of_getElem? (i := 31) rfl)) (ty := (.object "com/example/seatwright/seatwright/engine/Bucket")) (by decide) rfl rfl (g := (mkF m 2 #[.val (.ref a), .val (.ref b)] [(.ref b), (.ref a)])) rfl rfl (hb hby d5_2)
  have F1 := Fld.same W1 F_above
  have N1 := Fr.snoc X1 N0 ha
  have Z1 : n0 ≤ h1.size := by rw [Wr.size W1]; exact Z0
  have K1 := Keep.wr K0 W1 (Or.inl (List.mem_of_getElem? (i := 0) rfl))
  refine Go.st (S' := T1.setTop (mkF m 5 #[.val (.ref a), .val (.ref b)] [])) (fun t kt => st1 t kt) ?_
  have f2 := (Exa.wr W1 E_a)
  have f3 := (Fld.other W1 F_unit (Or.inr (slot_ne (Or.inr (hw _ (List.mem_of_getElem? (i := 38) rfl))) (Or.inl (hw _ (List.mem_of_getElem? (i := 71) rfl))) (by decide) (t := (.object "java/lang/String")) (t' := (.object "com/example/seatwright/seatwright/engine/Bucket")) (by decide) (by decide))))
  have f4 := (Fld.other W1 F_size (Or.inr (slot_ne (Or.inr (hw _ (List.mem_of_getElem? (i := 40) rfl))) (Or.inl (hw _ (List.mem_of_getElem? (i := 71) rfl))) (by decide) (t := .int) (t' := (.object "com/example/seatwright/seatwright/engine/Bucket")) (by decide) (by decide))))
  have f5 := (Fld.other W1 F_inUse (Or.inr (slot_ne (Or.inl (hw _ (List.mem_of_getElem? (i := 42) rfl))) (Or.inl (hw _ (List.mem_of_getElem? (i := 71) rfl))) (by decide) (t := .int) (t' := (.object "com/example/seatwright/seatwright/engine/Bucket")) (by decide) (by decide))))
  exact ret_v X1 hx hlk hret (hb hby d5_5) (by decide) (by decide) (by rw [e1]; exact ⟨rfl, N1, K1, f2, f3, f4, f5, F1⟩)
theorem d6_0 : decode prog_6_method_2_code 0 = .ok (.aload_n 0, 1) := by decide +kernel
theorem d6_1 : decode prog_6_method_2_code 1 = .ok (.getfield 7, 3) := by decide +kernel
theorem d6_4 : decode prog_6_method_2_code 4 = .ok (.areturn, 1) := by decide +kernel
theorem ef_rm6 (m : MethodId) (a : Addr) : entryFrame m #[(.ref a)] 1 = mkF m 0 #[.val (.ref a)] [] := by first | exact own_entry rfl | (simp [entryFrame, mkF, argsToLocals, Value.category]; done) | rfl
set_option maxRecDepth 65536 in
set_option maxHeartbeats 40000000 in
theorem rm6 (l : Launch) (Z : State) (a0 : Array Value) (hw : ∀ d ∈ tables_1, d.before a0 Z = true) (a : Addr) (u : Value) (hu : u.isRef = true) (h0 : Heap) (n0 : Nat) (Z0 : n0 ≤ h0.size) (F : Fld Z h0 a "com/example/seatwright/seatwright/engine/Bucket" "unit" "Ljava/lang/String;" u) :
    Pays l (⟨"com/example/seatwright/seatwright/engine/Bucket", "unit", "()Ljava/lang/String;"⟩ : MethodName) prog_6_method_2_code 1 (some (.object "java/lang/String")) ({ frames := 0, cells := 0, slots := 0, locals := 0 } : Room) Z #[(.ref a)] h0 (fun v h L => v = some u ∧ Fr n0 L ∧ h = h0) := by
  refine Pays.of (plainFor_of_name pn_com_example_seatwright_seatwright_engine_Bucket) ?_
  intro pP eE sS m below methM cC T hx hby hml hret hlk hZ hown hnm eT X
  replace hown : sS.vm.findClass "com/example/seatwright/seatwright/engine/Bucket" = some m.cls := hown
  have N0 := Fr.nil n0
  refine Go.cast (ef_rm6 m a) ?_
  refine Go.st (S' := T.setTop (mkF m 1 #[.val (.ref a)] [(.ref a)])) (fun t kt => XS.aloadN X.here hx rfl (hb hby d6_0) rfl rfl kt) ?_
  obtain ⟨T1, X1, e1, st1⟩ := getF X hx hZ hown (host := "") (Or.inl (hw _ (List.mem_of_getElem? (i := 37) rfl))) Via.refl eT F (g := (mkF m 1 #[.val (.ref a)] [(.ref a)])) rfl rfl (hb hby d6_1)
  refine Go.st (S' := T1.setTop (mkF m 4 #[.val (.ref a)] [u])) (fun t kt => st1 t kt) ?_
  exact ret_a X1 hx hlk hret rfl hu (hb hby d6_4) (by decide) (by decide) (⟨rfl, N0, e1⟩)
theorem d7_0 : decode prog_6_method_3_code 0 = .ok (.aload_n 0, 1) := by decide +kernel
theorem d7_1 : decode prog_6_method_3_code 1 = .ok (.getfield 13, 3) := by decide +kernel
theorem d7_4 : decode prog_6_method_3_code 4 = .ok (.ireturn, 1) := by decide +kernel
theorem ef_rm7 (m : MethodId) (a : Addr) : entryFrame m #[(.ref a)] 1 = mkF m 0 #[.val (.ref a)] [] := by first | exact own_entry rfl | (simp [entryFrame, mkF, argsToLocals, Value.category]; done) | rfl
set_option maxRecDepth 65536 in
set_option maxHeartbeats 40000000 in
theorem rm7 (l : Launch) (Z : State) (a0 : Array Value) (hw : ∀ d ∈ tables_1, d.before a0 Z = true) (a : Addr) (u : Int32) (h0 : Heap) (n0 : Nat) (Z0 : n0 ≤ h0.size) (F : Fld Z h0 a "com/example/seatwright/seatwright/engine/Bucket" "size" "I" (.int u)) :
    Pays l (⟨"com/example/seatwright/seatwright/engine/Bucket", "size", "()I"⟩ : MethodName) prog_6_method_3_code 1 (some .int) ({ frames := 0, cells := 0, slots := 0, locals := 0 } : Room) Z #[(.ref a)] h0 (fun v h L => v = some (.int u) ∧ Fr n0 L ∧ h = h0) := by
  refine Pays.of (plainFor_of_name pn_com_example_seatwright_seatwright_engine_Bucket) ?_
  intro pP eE sS m below methM cC T hx hby hml hret hlk hZ hown hnm eT X
  replace hown : sS.vm.findClass "com/example/seatwright/seatwright/engine/Bucket" = some m.cls := hown
  have N0 := Fr.nil n0
  refine Go.cast (ef_rm7 m a) ?_
  refine Go.st (S' := T.setTop (mkF m 1 #[.val (.ref a)] [(.ref a)])) (fun t kt => XS.aloadN X.here hx rfl (hb hby d7_0) rfl rfl kt) ?_
  obtain ⟨T1, X1, e1, st1⟩ := getF X hx hZ hown (host := "") (Or.inl (hw _ (List.mem_of_getElem? (i := 39) rfl))) Via.refl eT F (g := (mkF m 1 #[.val (.ref a)] [(.ref a)])) rfl rfl (hb hby d7_1)
  refine Go.st (S' := T1.setTop (mkF m 4 #[.val (.ref a)] [(.int u)])) (fun t kt => st1 t kt) ?_
  exact ret_i X1 hx hlk hret (hb hby d7_4) (by decide) (by decide) (⟨rfl, N0, e1⟩)
theorem d8_0 : decode prog_6_method_4_code 0 = .ok (.aload_n 0, 1) := by decide +kernel
theorem d8_1 : decode prog_6_method_4_code 1 = .ok (.getfield 17, 3) := by decide +kernel
theorem d8_4 : decode prog_6_method_4_code 4 = .ok (.ireturn, 1) := by decide +kernel
theorem ef_rm8 (m : MethodId) (a : Addr) : entryFrame m #[(.ref a)] 1 = mkF m 0 #[.val (.ref a)] [] := by first | exact own_entry rfl | (simp [entryFrame, mkF, argsToLocals, Value.category]; done) | rfl
set_option maxRecDepth 65536 in
set_option maxHeartbeats 40000000 in
theorem rm8 (l : Launch) (Z : State) (a0 : Array Value) (hw : ∀ d ∈ tables_1, d.before a0 Z = true) (a : Addr) (u : Int32) (h0 : Heap) (n0 : Nat) (Z0 : n0 ≤ h0.size) (F : Fld Z h0 a "com/example/seatwright/seatwright/engine/Bucket" "inUse" "I" (.int u)) :
    Pays l (⟨"com/example/seatwright/seatwright/engine/Bucket", "inUse", "()I"⟩ : MethodName) prog_6_method_4_code 1 (some .int) ({ frames := 0, cells := 0, slots := 0, locals := 0 } : Room) Z #[(.ref a)] h0 (fun v h L => v = some (.int u) ∧ Fr n0 L ∧ h = h0) := by
  refine Pays.of (plainFor_of_name pn_com_example_seatwright_seatwright_engine_Bucket) ?_
  intro pP eE sS m below methM cC T hx hby hml hret hlk hZ hown hnm eT X
  replace hown : sS.vm.findClass "com/example/seatwright/seatwright/engine/Bucket" = some m.cls := hown
  have N0 := Fr.nil n0
  refine Go.cast (ef_rm8 m a) ?_
  refine Go.st (S' := T.setTop (mkF m 1 #[.val (.ref a)] [(.ref a)])) (fun t kt => XS.aloadN X.here hx rfl (hb hby d8_0) rfl rfl kt) ?_
  obtain ⟨T1, X1, e1, st1⟩ := getF X hx hZ hown (host := "") (Or.inl (hw _ (List.mem_of_getElem? (i := 41) rfl))) Via.refl eT F (g := (mkF m 1 #[.val (.ref a)] [(.ref a)])) rfl rfl (hb hby d8_1)
  refine Go.st (S' := T1.setTop (mkF m 4 #[.val (.ref a)] [(.int u)])) (fun t kt => st1 t kt) ?_
  exact ret_i X1 hx hlk hret (hb hby d8_4) (by decide) (by decide) (⟨rfl, N0, e1⟩)
theorem d9_0 : decode prog_6_method_9_code 0 = .ok (.aload_n 0, 1) := by decide +kernel
theorem d9_1 : decode prog_6_method_9_code 1 = .ok (.getfield 24, 3) := by decide +kernel
theorem d9_4 : decode prog_6_method_9_code 4 = .ok (.areturn, 1) := by decide +kernel
theorem ef_rm9 (m : MethodId) (a : Addr) : entryFrame m #[(.ref a)] 1 = mkF m 0 #[.val (.ref a)] [] := by first | exact own_entry rfl | (simp [entryFrame, mkF, argsToLocals, Value.category]; done) | rfl
set_option maxRecDepth 65536 in
set_option maxHeartbeats 40000000 in
theorem rm9 (l : Launch) (Z : State) (a0 : Array Value) (hw : ∀ d ∈ tables_1, d.before a0 Z = true) (a : Addr) (u : Value) (hu : u.isRef = true) (h0 : Heap) (n0 : Nat) (Z0 : n0 ≤ h0.size) (F : Fld Z h0 a "com/example/seatwright/seatwright/engine/Bucket" "above" "Lcom/example/seatwright/seatwright/engine/Bucket;" u) :
    Pays l (⟨"com/example/seatwright/seatwright/engine/Bucket", "above", "()Lcom/example/seatwright/seatwright/engine/Bucket;"⟩ : MethodName) prog_6_method_9_code 1 (some (.object "com/example/seatwright/seatwright/engine/Bucket")) ({ frames := 0, cells := 0, slots := 0, locals := 0 } : Room) Z #[(.ref a)] h0 (fun v h L => v = some u ∧ Fr n0 L ∧ h = h0) := by
  refine Pays.of (plainFor_of_name pn_com_example_seatwright_seatwright_engine_Bucket) ?_
  intro pP eE sS m below methM cC T hx hby hml hret hlk hZ hown hnm eT X
  replace hown : sS.vm.findClass "com/example/seatwright/seatwright/engine/Bucket" = some m.cls := hown
  have N0 := Fr.nil n0
  refine Go.cast (ef_rm9 m a) ?_
  refine Go.st (S' := T.setTop (mkF m 1 #[.val (.ref a)] [(.ref a)])) (fun t kt => XS.aloadN X.here hx rfl (hb hby d9_0) rfl rfl kt) ?_
  obtain ⟨T1, X1, e1, st1⟩ := getF X hx hZ hown (host := "") (Or.inl (hw _ (List.mem_of_getElem? (i := 70) rfl))) Via.refl eT F (g := (mkF m 1 #[.val (.ref a)] [(.ref a)])) rfl rfl (hb hby d9_1)
  refine Go.st (S' := T1.setTop (mkF m 4 #[.val (.ref a)] [u])) (fun t kt => st1 t kt) ?_
  exact ret_a X1 hx hlk hret rfl hu (hb hby d9_4) (by decide) (by decide) (⟨rfl, N0, e1⟩)
theorem own_char (x : Int32) : ¬ (255 : Int32) < (nar .char (x &&& (255 : Int32)).toUInt32.toUInt16.toUInt32.toInt32) := by
  have e : nar .char (x &&& (255 : Int32)).toUInt32.toUInt16.toUInt32.toInt32 = x &&& 255 := by
    rw [i2c_mask]
    exact i2c_mask x
  rw [e]
  have h := c_and x (255 : Int32) (by decide)
  rw [Int32.lt_iff_toInt_lt]
  have : (255 : Int32).toInt = 255 := rfl
  omega
theorem pd___Lcom_example_seatwright_seatwright_engine_Bucket_ : parseMethodDescriptor "()Lcom/example/seatwright/seatwright/engine/Bucket;" = some ⟨[], some (.object "com/example/seatwright/seatwright/engine/Bucket")⟩ := by decide +kernel
theorem pd___Ljava_lang_String_ : parseMethodDescriptor "()Ljava/lang/String;" = some ⟨[], some (.object "java/lang/String")⟩ := by decide +kernel
theorem pd___I : parseMethodDescriptor "()I" = some ⟨[], some .int⟩ := by decide +kernel
theorem pd___V : parseMethodDescriptor "()V" = some ⟨[], none⟩ := by decide +kernel
theorem pd__Lcom_example_seatwright_seatwright_engine_Bucket__V : parseMethodDescriptor "(Lcom/example/seatwright/seatwright/engine/Bucket;)V" = some ⟨[(.object "com/example/seatwright/seatwright/engine/Bucket")], none⟩ := by decide +kernel
theorem pd___C_V : parseMethodDescriptor "([C)V" = some ⟨[(.array .char)], none⟩ := by decide +kernel
theorem pn_com_example_seatwright_seatwright_engine_BucketCopyPinLaw : plainName "com/example/seatwright/seatwright/engine/BucketCopyPinLaw" = true := by first | (simp [plainName, overriddenIn]; done) | decide +kernel
theorem ef_rm0 (m : MethodId) (p0 : Int32) (p1 : Int32) (p2 : Int32) (p3 : Int32) : entryFrame m #[(.int p0), (.int p1), (.int p2), (.int p3)] maxLocals = mkF m 0 #[.val (.int p0), .val (.int p1), .val (.int p2), .val (.int p3), .unset, .unset, .unset, .unset, .unset, .unset, .unset, .unset, .unset] [] := by first | exact own_entry rfl | (simp [entryFrame, mkF, argsToLocals, Value.category, maxLocals]; done) | rfl
set_option maxRecDepth 65536 in
set_option maxHeartbeats 40000000 in
theorem rm0 (l : Launch) (Z : State) (a0 : Array Value) (hw : ∀ d ∈ tables_1, d.before a0 Z = true) (p0 p1 p2 p3 : Int32) (h0 : Heap) (n0 : Nat) (Z0 : n0 ≤ h0.size) (cs : Int32) (S_cs : Sta Z h0 "java/lang/String" "COMPACT_STRINGS" "Z" (.int cs)) (hcs : ¬ cs = 0) :
    PaysW l x code maxLocals ret room_1 Z own_EL #[(.int p0), (.int p1), (.int p2), (.int p3)] h0 (fun v h L => v = some (.int 1) ∧ Fr n0 L) := by
  refine PaysW.of (plainFor_of_name pn_com_example_seatwright_seatwright_engine_BucketCopyPinLaw) ?_
  intro pP eE sS m below methM cC T hx hby hml hret hlk hZ0 hown0 hnm eT X C0 hS
  replace hown0 : sS.vm.findClass "com/example/seatwright/seatwright/engine/BucketCopyPinLaw" = some m.cls := hown0
  have hown : (sS.setVm sS.vm).vm.findClass "com/example/seatwright/seatwright/engine/BucketCopyPinLaw" = some m.cls := hown0
  have hZ : Z.Warmed39 (sS.setVm sS.vm).vm := hZ0
  have hk : 0 ≤ h0.size := Nat.zero_le _
  have hEL := own_ew hw
  have N0 := Fr.nil n0
  refine Go.cast (ef_rm0 m p0 p1 p2 p3) ?_
  refine Go.st (S' := T.setTop (mkF m 1 #[.val (.int p0), .val (.int p1), .val (.int p2), .val (.int p3), .unset, .unset, .unset, .unset, .unset, .unset, .unset, .unset, .unset] [(.int p0)])) (fun t kt => XS.iloadN X.here hx rfl (hb hby at_0) rfl kt) ?_
  refine Go.st (S' := T.setTop (mkF m 4 #[.val (.int p0), .val (.int p1), .val (.int p2), .val (.int p3), .unset, .unset, .unset, .unset, .unset, .unset, .unset, .unset, .unset] [(.int (255 : Int32)), (.int p0)])) (fun t kt => XT.sipushV X.here hx rfl (255 : Int32) (hb hby at_1) (by decide) kt) ?_
  refine Go.st (S' := T.setTop (mkF m 5 #[.val (.int p0), .val (.int p1), .val (.int p2), .val (.int p3), .unset, .unset, .unset, .unset, .unset, .unset, .unset, .unset, .unset] [(.int (p0 &&& (255 : Int32)))])) (fun t kt => XS.iand X.here hx rfl (hb hby at_4) rfl kt) ?_
  refine Go.st (S' := T.setTop (mkF m 6 #[.val (.int p0), .val (.int p1), .val (.int p2), .val (.int p3), .unset, .unset, .unset, .unset, .unset, .unset, .unset, .unset, .unset] [(.int ((p0 &&& (255 : Int32))).toUInt32.toUInt16.toUInt32.toInt32)])) (fun t kt => XT.i2c X.here hx rfl (hb hby at_5) rfl kt) ?_
  refine Go.st (S' := T.setTop (mkF m 8 #[.val (.int p0), .val (.int p1), .val (.int p2), .val (.int p3), .val (.int ((p0 &&& (255 : Int32))).toUInt32.toUInt16.toUInt32.toInt32), .unset, .unset, .unset, .unset, .unset, .unset, .unset, .unset] [])) (fun t kt => XS.istore X.here hx rfl (hb hby at_6) rfl rfl kt) ?_
  refine Go.st (S' := T.setTop (mkF m 9 #[.val (.int p0), .val (.int p1), .val (.int p2), .val (.int p3), .val (.int ((p0 &&& (255 : Int32))).toUInt32.toUInt16.toUInt32.toInt32), .unset, .unset, .unset, .unset, .unset, .unset, .unset, .unset] [(.int p0)])) (fun t kt => XS.iloadN X.here hx rfl (hb hby at_8) rfl kt) ?_
  refine Go.st (S' := T.setTop (mkF m 11 #[.val (.int p0), .val (.int p1), .val (.int p2), .val (.int p3), .val (.int ((p0 &&& (255 : Int32))).toUInt32.toUInt16.toUInt32.toInt32), .unset, .unset, .unset, .unset, .unset, .unset, .unset, .unset] [(.int (8 : Int32)), (.int p0)])) (fun t kt => XT.bipushV X.here hx rfl (8 : Int32) (hb hby at_9) (by decide) kt) ?_
  refine Go.st (S' := T.setTop (mkF m 12 #[.val (.int p0), .val (.int p1), .val (.int p2), .val (.int p3), .val (.int ((p0 &&& (255 : Int32))).toUInt32.toUInt16.toUInt32.toInt32), .unset, .unset, .unset, .unset, .unset, .unset, .unset, .unset] [(.int (XT.ushr p0 (8 : Int32)))])) (fun t kt => XT.iushr X.here hx rfl (hb hby at_11) rfl kt) ?_
  refine Go.st (S' := T.setTop (mkF m 15 #[.val (.int p0), .val (.int p1), .val (.int p2), .val (.int p3), .val (.int ((p0 &&& (255 : Int32))).toUInt32.toUInt16.toUInt32.toInt32), .unset, .unset, .unset, .unset, .unset, .unset, .unset, .unset] [(.int (255 : Int32)), (.int (XT.ushr p0 (8 : Int32)))])) (fun t kt => XT.sipushV X.here hx rfl (255 : Int32) (hb hby at_12) (by decide) kt) ?_
  refine Go.st (S' := T.setTop (mkF m 16 #[.val (.int p0), .val (.int p1), .val (.int p2), .val (.int p3), .val (.int ((p0 &&& (255 : Int32))).toUInt32.toUInt16.toUInt32.toInt32), .unset, .unset, .unset, .unset, .unset, .unset, .unset, .unset] [(.int ((XT.ushr p0 (8 : Int32)) &&& (255 : Int32)))])) (fun t kt => XS.iand X.here hx rfl (hb hby at_15) rfl kt) ?_
  refine Go.st (S' := T.setTop (mkF m 17 #[.val (.int p0), .val (.int p1), .val (.int p2), .val (.int p3), .val (.int ((p0 &&& (255 : Int32))).toUInt32.toUInt16.toUInt32.toInt32), .unset, .unset, .unset, .unset, .unset, .unset, .unset, .unset] [(.int (((XT.ushr p0 (8 : Int32)) &&& (255 : Int32))).toUInt32.toUInt16.toUInt32.toInt32)])) (fun t kt => XT.i2c X.here hx rfl (hb hby at_16) rfl kt) ?_
  refine Go.st (S' := T.setTop (mkF m 19 #[.val (.int p0), .val (.int p1), .val (.int p2), .val (.int p3), .val (.int ((p0 &&& (255 : Int32))).toUInt32.toUInt16.toUInt32.toInt32), .val (.int (((XT.ushr p0 (8 : Int32)) &&& (255 : Int32))).toUInt32.toUInt16.toUInt32.toInt32), .unset, .unset, .unset, .unset, .unset, .unset, .unset] [])) (fun t kt => XS.istore X.here hx rfl (hb hby at_17) rfl rfl kt) ?_
  refine Go.st (S' := T.setTop (mkF m 20 #[.val (.int p0), .val (.int p1), .val (.int p2), .val (.int p3), .val (.int ((p0 &&& (255 : Int32))).toUInt32.toUInt16.toUInt32.toInt32), .val (.int (((XT.ushr p0 (8 : Int32)) &&& (255 : Int32))).toUInt32.toUInt16.toUInt32.toInt32), .unset, .unset, .unset, .unset, .unset, .unset, .unset] [(.int p3)])) (fun t kt => XS.iloadN X.here hx rfl (hb hby at_19) rfl kt) ?_
  refine Go.st (S' := T.setTop (mkF m 21 #[.val (.int p0), .val (.int p1), .val (.int p2), .val (.int p3), .val (.int ((p0 &&& (255 : Int32))).toUInt32.toUInt16.toUInt32.toInt32), .val (.int (((XT.ushr p0 (8 : Int32)) &&& (255 : Int32))).toUInt32.toUInt16.toUInt32.toInt32), .unset, .unset, .unset, .unset, .unset, .unset, .unset] [(.int (3 : Int32)), (.int p3)])) (fun t kt => XS.iconst X.here hx rfl (hb hby at_20) kt) ?_
  refine Go.st (S' := T.setTop (mkF m 22 #[.val (.int p0), .val (.int p1), .val (.int p2), .val (.int p3), .val (.int ((p0 &&& (255 : Int32))).toUInt32.toUInt16.toUInt32.toInt32), .val (.int (((XT.ushr p0 (8 : Int32)) &&& (255 : Int32))).toUInt32.toUInt16.toUInt32.toInt32), .unset, .unset, .unset, .unset, .unset, .unset, .unset] [(.int (p3 &&& (3 : Int32)))])) (fun t kt => XS.iand X.here hx rfl (hb hby at_21) rfl kt) ?_
  refine Go.st (S' := T.setTop (mkF m 24 #[.val (.int p0), .val (.int p1), .val (.int p2), .val (.int p3), .val (.int ((p0 &&& (255 : Int32))).toUInt32.toUInt16.toUInt32.toInt32), .val (.int (((XT.ushr p0 (8 : Int32)) &&& (255 : Int32))).toUInt32.toUInt16.toUInt32.toInt32), .val (.int (p3 &&& (3 : Int32))), .unset, .unset, .unset, .unset, .unset, .unset] [])) (fun t kt => XS.istore X.here hx rfl (hb hby at_22) rfl rfl kt) ?_
  refine Go.st (S' := T.setTop (mkF m 26 #[.val (.int p0), .val (.int p1), .val (.int p2), .val (.int p3), .val (.int ((p0 &&& (255 : Int32))).toUInt32.toUInt16.toUInt32.toInt32), .val (.int (((XT.ushr p0 (8 : Int32)) &&& (255 : Int32))).toUInt32.toUInt16.toUInt32.toInt32), .val (.int (p3 &&& (3 : Int32))), .unset, .unset, .unset, .unset, .unset, .unset] [(.int (p3 &&& (3 : Int32)))])) (fun t kt => XS.iload X.here hx rfl (hb hby at_24) rfl kt) ?_
  by_cases hc26_1 : (p3 &&& (3 : Int32)) = 0
  · refine Go.st (S' := T.setTop (mkF m 29 #[.val (.int p0), .val (.int p1), .val (.int p2), .val (.int p3), .val (.int ((p0 &&& (255 : Int32))).toUInt32.toUInt16.toUInt32.toInt32), .val (.int (((XT.ushr p0 (8 : Int32)) &&& (255 : Int32))).toUInt32.toUInt16.toUInt32.toInt32), .val (.int (p3 &&& (3 : Int32))), .unset, .unset, .unset, .unset, .unset, .unset] [])) (fun t kt => XS.ifNo X.here hx rfl (hb hby at_26) rfl (XT.i0_ne_f hc26_1) kt) ?_
    refine Go.st (S' := T.setTop (mkF m 30 #[.val (.int p0), .val (.int p1), .val (.int p2), .val (.int p3), .val (.int ((p0 &&& (255 : Int32))).toUInt32.toUInt16.toUInt32.toInt32), .val (.int (((XT.ushr p0 (8 : Int32)) &&& (255 : Int32))).toUInt32.toUInt16.toUInt32.toInt32), .val (.int (p3 &&& (3 : Int32))), .unset, .unset, .unset, .unset, .unset, .unset] [.null])) (fun t kt => XS.aconstNull X.here hx rfl (hb hby at_29) kt) ?_
    refine Go.st (S' := T.setTop (mkF m 32 #[.val (.int p0), .val (.int p1), .val (.int p2), .val (.int p3), .val (.int ((p0 &&& (255 : Int32))).toUInt32.toUInt16.toUInt32.toInt32), .val (.int (((XT.ushr p0 (8 : Int32)) &&& (255 : Int32))).toUInt32.toUInt16.toUInt32.toInt32), .val (.int (p3 &&& (3 : Int32))), .val .null, .unset, .unset, .unset, .unset, .unset] [])) (fun t kt => XS.astore X.here hx rfl (hb hby at_30) rfl rfl rfl kt) ?_
    refine Go.st (S' := T.setTop (mkF m 104 #[.val (.int p0), .val (.int p1), .val (.int p2), .val (.int p3), .val (.int ((p0 &&& (255 : Int32))).toUInt32.toUInt16.toUInt32.toInt32), .val (.int (((XT.ushr p0 (8 : Int32)) &&& (255 : Int32))).toUInt32.toUInt16.toUInt32.toInt32), .val (.int (p3 &&& (3 : Int32))), .val .null, .unset, .unset, .unset, .unset, .unset] [])) (fun t kt => XS.goto X.here hx rfl (pc0 := 32) (pc' := 104) rfl (hb hby at_32) (by decide) (by decide) kt) ?_
    refine Go.st (S' := T.setTop (mkF m 105 #[.val (.int p0), .val (.int p1), .val (.int p2), .val (.int p3), .val (.int ((p0 &&& (255 : Int32))).toUInt32.toUInt16.toUInt32.toInt32), .val (.int (((XT.ushr p0 (8 : Int32)) &&& (255 : Int32))).toUInt32.toUInt16.toUInt32.toInt32), .val (.int (p3 &&& (3 : Int32))), .val .null, .unset, .unset, .unset, .unset, .unset] [(.int p3)])) (fun t kt => XS.iloadN X.here hx rfl (hb hby at_104) rfl kt) ?_
    refine Go.st (S' := T.setTop (mkF m 106 #[.val (.int p0), .val (.int p1), .val (.int p2), .val (.int p3), .val (.int ((p0 &&& (255 : Int32))).toUInt32.toUInt16.toUInt32.toInt32), .val (.int (((XT.ushr p0 (8 : Int32)) &&& (255 : Int32))).toUInt32.toUInt16.toUInt32.toInt32), .val (.int (p3 &&& (3 : Int32))), .val .null, .unset, .unset, .unset, .unset, .unset] [(.int (4 : Int32)), (.int p3)])) (fun t kt => XS.iconst X.here hx rfl (hb hby at_105) kt) ?_
    refine Go.st (S' := T.setTop (mkF m 107 #[.val (.int p0), .val (.int p1), .val (.int p2), .val (.int p3), .val (.int ((p0 &&& (255 : Int32))).toUInt32.toUInt16.toUInt32.toInt32), .val (.int (((XT.ushr p0 (8 : Int32)) &&& (255 : Int32))).toUInt32.toUInt16.toUInt32.toInt32), .val (.int (p3 &&& (3 : Int32))), .val .null, .unset, .unset, .unset, .unset, .unset] [(.int (p3 &&& (4 : Int32)))])) (fun t kt => XS.iand X.here hx rfl (hb hby at_106) rfl kt) ?_
    by_cases hc107_2 : (p3 &&& (4 : Int32)) = 0
    · refine Go.st (S' := T.setTop (mkF m 114 #[.val (.int p0), .val (.int p1), .val (.int p2), .val (.int p3), .val (.int ((p0 &&& (255 : Int32))).toUInt32.toUInt16.toUInt32.toInt32), .val (.int (((XT.ushr p0 (8 : Int32)) &&& (255 : Int32))).toUInt32.toUInt16.toUInt32.toInt32), .val (.int (p3 &&& (3 : Int32))), .val .null, .unset, .unset, .unset, .unset, .unset] [])) (fun t kt => XS.ifYes X.here hx rfl (pc0 := 107) (pc' := 114) rfl (hb hby at_107) rfl (XT.i0_eq_t hc107_2) (by decide) (by decide) kt) ?_
      refine Go.st (S' := T.setTop (mkF m 115 #[.val (.int p0), .val (.int p1), .val (.int p2), .val (.int p3), .val (.int ((p0 &&& (255 : Int32))).toUInt32.toUInt16.toUInt32.toInt32), .val (.int (((XT.ushr p0 (8 : Int32)) &&& (255 : Int32))).toUInt32.toUInt16.toUInt32.toInt32), .val (.int (p3 &&& (3 : Int32))), .val .null, .unset, .unset, .unset, .unset, .unset] [(.int (0 : Int32))])) (fun t kt => XS.iconst X.here hx rfl (hb hby at_114) kt) ?_
      refine Go.st (S' := T.setTop (mkF m 117 #[.val (.int p0), .val (.int p1), .val (.int p2), .val (.int p3), .val (.int ((p0 &&& (255 : Int32))).toUInt32.toUInt16.toUInt32.toInt32), .val (.int (((XT.ushr p0 (8 : Int32)) &&& (255 : Int32))).toUInt32.toUInt16.toUInt32.toInt32), .val (.int (p3 &&& (3 : Int32))), .val .null, .val (.int (0 : Int32)), .unset, .unset, .unset, .unset] [])) (fun t kt => XS.istore X.here hx rfl (hb hby at_115) rfl rfl kt) ?_
      obtain ⟨T3, h3, X3, e3, E3, A3, D3, -, st3⟩ := newO X hx hZ hown (hw _ (List.mem_of_getElem? (i := 30) rfl)) (hw _ (List.mem_of_getElem? (i := 31) rfl)) (hw _ (List.mem_of_getElem? (i := 32) rfl)) eT (g := (mkF m 117 #[.val (.int p0), .val (.int p1), .val (.int p2), .val (.int p3), .val (.int ((p0 &&& (255 : Int32))).toUInt32.toUInt16.toUInt32.toInt32), .val (.int (((XT.ushr p0 (8 : Int32)) &&& (255 : Int32))).toUInt32.toUInt16.toUInt32.toInt32), .val (.int (p3 &&& (3 : Int32))), .val .null, .val (.int (0 : Int32)), .unset, .unset, .unset, .unset] [])) rfl (hb hby at_117) (by decide) (by decide)
      obtain ⟨a3, g3⟩ : ∃ z, z = h0.size := ⟨_, rfl⟩
      rw [← g3] at A3 D3 st3
      have Z3 : n0 ≤ h3.size := Nat.le_trans Z0 E3.1
      have S3 : Safe Z own_EL sS.vm h0 a3 := Safe.new (Nat.le_of_eq g3.symm)
      have C3 := CHr.trans C0 (CHr.ext E3 C0.1)
      have hk := Nat.le_trans hk E3.1
      have F3_unit : Fld Z h3 a3 "com/example/seatwright/seatwright/engine/Bucket" "unit" "Ljava/lang/String;" .null := D3 (Or.inr (hw _ (List.mem_of_getElem? (i := 38) rfl))) (ty := (.object "java/lang/String")) (by decide)
      have F3_size : Fld Z h3 a3 "com/example/seatwright/seatwright/engine/Bucket" "size" "I" (.int (0 : Int32)) := D3 (Or.inr (hw _ (List.mem_of_getElem? (i := 40) rfl))) (ty := .int) (by decide)
      have F3_inUse : Fld Z h3 a3 "com/example/seatwright/seatwright/engine/Bucket" "inUse" "I" (.int (0 : Int32)) := D3 (Or.inl (hw _ (List.mem_of_getElem? (i := 42) rfl))) (ty := .int) (by decide)
      have F3_above : Fld Z h3 a3 "com/example/seatwright/seatwright/engine/Bucket" "above" "Lcom/example/seatwright/seatwright/engine/Bucket;" .null := D3 (Or.inl (hw _ (List.mem_of_getElem? (i := 71) rfl))) (ty := (.object "com/example/seatwright/seatwright/engine/Bucket")) (by decide)
      refine Go.st (S' := T3.setTop (mkF m 120 #[.val (.int p0), .val (.int p1), .val (.int p2), .val (.int p3), .val (.int ((p0 &&& (255 : Int32))).toUInt32.toUInt16.toUInt32.toInt32), .val (.int (((XT.ushr p0 (8 : Int32)) &&& (255 : Int32))).toUInt32.toUInt16.toUInt32.toInt32), .val (.int (p3 &&& (3 : Int32))), .val .null, .val (.int (0 : Int32)), .unset, .unset, .unset, .unset] [(.ref a3)])) (fun t kt => st3 t kt) ?_
      refine Go.st (S' := T3.setTop (mkF m 121 #[.val (.int p0), .val (.int p1), .val (.int p2), .val (.int p3), .val (.int ((p0 &&& (255 : Int32))).toUInt32.toUInt16.toUInt32.toInt32), .val (.int (((XT.ushr p0 (8 : Int32)) &&& (255 : Int32))).toUInt32.toUInt16.toUInt32.toInt32), .val (.int (p3 &&& (3 : Int32))), .val .null, .val (.int (0 : Int32)), .unset, .unset, .unset, .unset] [(.ref a3), (.ref a3)])) (fun t kt => XS.dup X3.here hx rfl (hb hby at_120) rfl rfl kt) ?_
      refine Go.st (S' := T3.setTop (mkF m 123 #[.val (.int p0), .val (.int p1), .val (.int p2), .val (.int p3), .val (.int ((p0 &&& (255 : Int32))).toUInt32.toUInt16.toUInt32.toInt32), .val (.int (((XT.ushr p0 (8 : Int32)) &&& (255 : Int32))).toUInt32.toUInt16.toUInt32.toInt32), .val (.int (p3 &&& (3 : Int32))), .val .null, .val (.int (0 : Int32)), .unset, .unset, .unset, .unset] [.null, (.ref a3), (.ref a3)])) (fun t kt => XS.aload X3.here hx rfl (hb hby at_121) rfl rfl kt) ?_
      refine Go.st (S' := T3.setTop (mkF m 124 #[.val (.int p0), .val (.int p1), .val (.int p2), .val (.int p3), .val (.int ((p0 &&& (255 : Int32))).toUInt32.toUInt16.toUInt32.toInt32), .val (.int (((XT.ushr p0 (8 : Int32)) &&& (255 : Int32))).toUInt32.toUInt16.toUInt32.toInt32), .val (.int (p3 &&& (3 : Int32))), .val .null, .val (.int (0 : Int32)), .unset, .unset, .unset, .unset] [(.int p1), .null, (.ref a3), (.ref a3)])) (fun t kt => XS.iloadN X3.here hx rfl (hb hby at_123) rfl kt) ?_
      refine Go.st (S' := T3.setTop (mkF m 125 #[.val (.int p0), .val (.int p1), .val (.int p2), .val (.int p3), .val (.int ((p0 &&& (255 : Int32))).toUInt32.toUInt16.toUInt32.toInt32), .val (.int (((XT.ushr p0 (8 : Int32)) &&& (255 : Int32))).toUInt32.toUInt16.toUInt32.toInt32), .val (.int (p3 &&& (3 : Int32))), .val .null, .val (.int (0 : Int32)), .unset, .unset, .unset, .unset] [(.int p2), (.int p1), .null, (.ref a3), (.ref a3)])) (fun t kt => XS.iloadN X3.here hx rfl (hb hby at_124) rfl kt) ?_
      refine Go.init X3 hx hZ rfl hown (hw _ (List.mem_of_getElem? (i := 33) rfl)) (hw _ (List.mem_of_getElem? (i := 34) rfl)) (hw _ (List.mem_of_getElem? (i := 35) rfl)) (hw _ (List.mem_of_getElem? (i := 32) rfl)) (by decide) (b := a3) (argsL := [.null, (.int p1), (.int p2)]) (rest := [(.ref a3)]) (rm2 l Z a0 hw a3 .null rfl p1 p2 h3 n0 Z3 A3 (Nat.le_trans Z0 (Nat.le_of_eq g3.symm)) F3_unit F3_size F3_inUse F3_above) e3 rfl (by rw [hml]; rfl) pd__Ljava_lang_String_II_V rfl (hb hby at_125) 1 (Nat.le_refl _) (by decide) (by decide) (by decide) (by decide) ?_
      intro v4 T4 L4 X4 hQ4
      have f5 := (Safe.ext E3 C0.1 S3)
      obtain ⟨hv4, N4', K4', f4_0, f4_1, f4_2, f4_3, f4_4⟩ := hQ4
      subst hv4
      have N4 := Fr.app N0 N4'
      have Z4 : n0 ≤ T4.heap.size := Nat.le_trans Z3 K4'.1
      have eh4 : T4.heap = T4.heap := rfl
      have C4 := CHr.trans C3 (CHr.keep K4' (allS f5 all0) C3.1)
      have hk := Nat.le_trans hk K4'.1
      show Go pP eE below _ (T4.setTop (mkF m 128 #[.val (.int p0), .val (.int p1), .val (.int p2), .val (.int p3), .val (.int ((p0 &&& (255 : Int32))).toUInt32.toUInt16.toUInt32.toInt32), .val (.int (((XT.ushr p0 (8 : Int32)) &&& (255 : Int32))).toUInt32.toUInt16.toUInt32.toInt32), .val (.int (p3 &&& (3 : Int32))), .val .null, .val (.int (0 : Int32)), .unset, .unset, .unset, .unset] [(.ref a3)]))
      refine Go.st (S' := T4.setTop (mkF m 130 #[.val (.int p0), .val (.int p1), .val (.int p2), .val (.int p3), .val (.int ((p0 &&& (255 : Int32))).toUInt32.toUInt16.toUInt32.toInt32), .val (.int (((XT.ushr p0 (8 : Int32)) &&& (255 : Int32))).toUInt32.toUInt16.toUInt32.toInt32), .val (.int (p3 &&& (3 : Int32))), .val .null, .val (.int (0 : Int32)), .val (.ref a3), .unset, .unset, .unset] [])) (fun t kt => XS.astore X4.here hx rfl (hb hby at_128) rfl rfl rfl kt) ?_
      refine Go.st (S' := T4.setTop (mkF m 132 #[.val (.int p0), .val (.int p1), .val (.int p2), .val (.int p3), .val (.int ((p0 &&& (255 : Int32))).toUInt32.toUInt16.toUInt32.toInt32), .val (.int (((XT.ushr p0 (8 : Int32)) &&& (255 : Int32))).toUInt32.toUInt16.toUInt32.toInt32), .val (.int (p3 &&& (3 : Int32))), .val .null, .val (.int (0 : Int32)), .val (.ref a3), .unset, .unset, .unset] [(.int (0 : Int32))])) (fun t kt => XS.iload X4.here hx rfl (hb hby at_130) rfl kt) ?_
      refine Go.st (S' := T4.setTop (mkF m 142 #[.val (.int p0), .val (.int p1), .val (.int p2), .val (.int p3), .val (.int ((p0 &&& (255 : Int32))).toUInt32.toUInt16.toUInt32.toInt32), .val (.int (((XT.ushr p0 (8 : Int32)) &&& (255 : Int32))).toUInt32.toUInt16.toUInt32.toInt32), .val (.int (p3 &&& (3 : Int32))), .val .null, .val (.int (0 : Int32)), .val (.ref a3), .unset, .unset, .unset] [])) (fun t kt => XS.ifYes X4.here hx rfl (pc0 := 132) (pc' := 142) rfl (hb hby at_132) rfl (XT.i0_eq_t (by decide)) (by decide) (by decide) kt) ?_
      refine Go.st (S' := T4.setTop (mkF m 144 #[.val (.int p0), .val (.int p1), .val (.int p2), .val (.int p3), .val (.int ((p0 &&& (255 : Int32))).toUInt32.toUInt16.toUInt32.toInt32), .val (.int (((XT.ushr p0 (8 : Int32)) &&& (255 : Int32))).toUInt32.toUInt16.toUInt32.toInt32), .val (.int (p3 &&& (3 : Int32))), .val .null, .val (.int (0 : Int32)), .val (.ref a3), .unset, .unset, .unset] [(.ref a3)])) (fun t kt => XS.aload X4.here hx rfl (hb hby at_142) rfl rfl kt) ?_
      refine Go.virt X4 hx hZ hown (hw _ (List.mem_of_getElem? (i := 43) rfl)) (hw _ (List.mem_of_getElem? (i := 44) rfl)) (notFace_of_selects (mvT (args := #[]) hZ (hw _ (List.mem_of_getElem? (i := 46) rfl)))) (hw _ (List.mem_of_getElem? (i := 46) rfl)) (hw _ (List.mem_of_getElem? (i := 45) rfl)) (hw _ (List.mem_of_getElem? (i := 47) rfl)) (hw _ (List.mem_of_getElem? (i := 32) rfl)) (by decide) (b := a3) (argsL := []) (rest := []) (rm3 l Z a0 hw a3 .null rfl p1 p2 .null rfl T4.heap n0 Z4 f4_0 (Nat.le_trans Z0 (Nat.le_of_eq g3.symm)) f4_1 f4_2 f4_3 f4_4) eh4 f4_0 rfl (by rw [hml]; rfl) pd___Lcom_example_seatwright_seatwright_engine_Bucket_ rfl (hb hby at_144) 0 (Nat.le_refl _) (by decide) (by decide) (by decide) (by decide) ?_
      intro v6 T6 L6 X6 hQ6
      obtain ⟨b6, hv6, N6', K6', y6_0, u6_0, f6_0, f6_1, f6_2, f6_3, f6_4⟩ := hQ6
      subst hv6
      have N6 := Fr.app N4 N6'
      have Z6 : n0 ≤ T6.heap.size := Nat.le_trans Z4 K6'.1
      have eh6 : T6.heap = T6.heap := rfl
      have C6 := CHr.trans C4 (CHr.keep K6' all0 C4.1)
      have hk := Nat.le_trans hk K6'.1
      show Go pP eE below _ (T6.setTop (mkF m 147 #[.val (.int p0), .val (.int p1), .val (.int p2), .val (.int p3), .val (.int ((p0 &&& (255 : Int32))).toUInt32.toUInt16.toUInt32.toInt32), .val (.int (((XT.ushr p0 (8 : Int32)) &&& (255 : Int32))).toUInt32.toUInt16.toUInt32.toInt32), .val (.int (p3 &&& (3 : Int32))), .val .null, .val (.int (0 : Int32)), .val (.ref a3), .unset, .unset, .unset] [(.ref b6)]))
      refine Go.st (S' := T6.setTop (mkF m 149 #[.val (.int p0), .val (.int p1), .val (.int p2), .val (.int p3), .val (.int ((p0 &&& (255 : Int32))).toUInt32.toUInt16.toUInt32.toInt32), .val (.int (((XT.ushr p0 (8 : Int32)) &&& (255 : Int32))).toUInt32.toUInt16.toUInt32.toInt32), .val (.int (p3 &&& (3 : Int32))), .val .null, .val (.int (0 : Int32)), .val (.ref a3), .val (.ref b6), .unset, .unset] [])) (fun t kt => XS.astore X6.here hx rfl (hb hby at_147) rfl rfl rfl kt) ?_
      refine Go.st (S' := T6.setTop (mkF m 151 #[.val (.int p0), .val (.int p1), .val (.int p2), .val (.int p3), .val (.int ((p0 &&& (255 : Int32))).toUInt32.toUInt16.toUInt32.toInt32), .val (.int (((XT.ushr p0 (8 : Int32)) &&& (255 : Int32))).toUInt32.toUInt16.toUInt32.toInt32), .val (.int (p3 &&& (3 : Int32))), .val .null, .val (.int (0 : Int32)), .val (.ref a3), .val (.ref b6), .unset, .unset] [(.ref b6)])) (fun t kt => XS.aload X6.here hx rfl (hb hby at_149) rfl rfl kt) ?_
      refine Go.st (S' := T6.setTop (mkF m 154 #[.val (.int p0), .val (.int p1), .val (.int p2), .val (.int p3), .val (.int ((p0 &&& (255 : Int32))).toUInt32.toUInt16.toUInt32.toInt32), .val (.int (((XT.ushr p0 (8 : Int32)) &&& (255 : Int32))).toUInt32.toUInt16.toUInt32.toInt32), .val (.int (p3 &&& (3 : Int32))), .val .null, .val (.int (0 : Int32)), .val (.ref a3), .val (.ref b6), .unset, .unset] [])) (fun t kt => XS.ifnullNo X6.here hx rfl (hb hby at_151) rfl kt) ?_
      refine Go.st (S' := T6.setTop (mkF m 156 #[.val (.int p0), .val (.int p1), .val (.int p2), .val (.int p3), .val (.int ((p0 &&& (255 : Int32))).toUInt32.toUInt16.toUInt32.toInt32), .val (.int (((XT.ushr p0 (8 : Int32)) &&& (255 : Int32))).toUInt32.toUInt16.toUInt32.toInt32), .val (.int (p3 &&& (3 : Int32))), .val .null, .val (.int (0 : Int32)), .val (.ref a3), .val (.ref b6), .unset, .unset] [(.ref b6)])) (fun t kt => XS.aload X6.here hx rfl (hb hby at_154) rfl rfl kt) ?_
      refine Go.st (S' := T6.setTop (mkF m 158 #[.val (.int p0), .val (.int p1), .val (.int p2), .val (.int p3), .val (.int ((p0 &&& (255 : Int32))).toUInt32.toUInt16.toUInt32.toInt32), .val (.int (((XT.ushr p0 (8 : Int32)) &&& (255 : Int32))).toUInt32.toUInt16.toUInt32.toInt32), .val (.int (p3 &&& (3 : Int32))), .val .null, .val (.int (0 : Int32)), .val (.ref a3), .val (.ref b6), .unset, .unset] [(.ref a3), (.ref b6)])) (fun t kt => XS.aload X6.here hx rfl (hb hby at_156) rfl rfl kt) ?_
      refine Go.st (S' := T6.setTop (mkF m 163 #[.val (.int p0), .val (.int p1), .val (.int p2), .val (.int p3), .val (.int ((p0 &&& (255 : Int32))).toUInt32.toUInt16.toUInt32.toInt32), .val (.int (((XT.ushr p0 (8 : Int32)) &&& (255 : Int32))).toUInt32.toUInt16.toUInt32.toInt32), .val (.int (p3 &&& (3 : Int32))), .val .null, .val (.int (0 : Int32)), .val (.ref a3), .val (.ref b6), .unset, .unset] [])) (fun t kt => XT.acmpYes X6.here hx rfl (pc0 := 158) (pc' := 163) rfl (hb hby at_158) rfl rfl rfl (XT.aa_ne_t (fun q => (Ne.symm (Nat.ne_of_lt (Nat.lt_of_lt_of_le f4_0.lt y6_0))) (Value.ref.inj q))) (by decide) (by decide) kt) ?_
      refine Go.st (S' := T6.setTop (mkF m 165 #[.val (.int p0), .val (.int p1), .val (.int p2), .val (.int p3), .val (.int ((p0 &&& (255 : Int32))).toUInt32.toUInt16.toUInt32.toInt32), .val (.int (((XT.ushr p0 (8 : Int32)) &&& (255 : Int32))).toUInt32.toUInt16.toUInt32.toInt32), .val (.int (p3 &&& (3 : Int32))), .val .null, .val (.int (0 : Int32)), .val (.ref a3), .val (.ref b6), .unset, .unset] [(.ref b6)])) (fun t kt => XS.aload X6.here hx rfl (hb hby at_163) rfl rfl kt) ?_
      refine Go.virt X6 hx hZ hown (hw _ (List.mem_of_getElem? (i := 50) rfl)) (hw _ (List.mem_of_getElem? (i := 51) rfl)) (notFace_of_selects (mvT (args := #[]) hZ (hw _ (List.mem_of_getElem? (i := 53) rfl)))) (hw _ (List.mem_of_getElem? (i := 53) rfl)) (hw _ (List.mem_of_getElem? (i := 52) rfl)) (hw _ (List.mem_of_getElem? (i := 54) rfl)) (hw _ (List.mem_of_getElem? (i := 32) rfl)) (by decide) (b := b6) (argsL := []) (rest := []) (rm6 l Z a0 hw b6 .null rfl T6.heap n0 Z6 f6_1) eh6 f6_0 rfl (by rw [hml]; rfl) pd___Ljava_lang_String_ rfl (hb hby at_165) 0 (Nat.le_refl _) (by decide) (by decide) (by decide) (by decide) ?_
      intro v7 T7 L7 X7 hQ7
      obtain ⟨hv7, N7', e7⟩ := hQ7
      subst hv7
      have N7 := Fr.app N6 N7'
      show Go pP eE below _ (T7.setTop (mkF m 168 #[.val (.int p0), .val (.int p1), .val (.int p2), .val (.int p3), .val (.int ((p0 &&& (255 : Int32))).toUInt32.toUInt16.toUInt32.toInt32), .val (.int (((XT.ushr p0 (8 : Int32)) &&& (255 : Int32))).toUInt32.toUInt16.toUInt32.toInt32), .val (.int (p3 &&& (3 : Int32))), .val .null, .val (.int (0 : Int32)), .val (.ref a3), .val (.ref b6), .unset, .unset] [.null]))
      refine Go.st (S' := T7.setTop (mkF m 170 #[.val (.int p0), .val (.int p1), .val (.int p2), .val (.int p3), .val (.int ((p0 &&& (255 : Int32))).toUInt32.toUInt16.toUInt32.toInt32), .val (.int (((XT.ushr p0 (8 : Int32)) &&& (255 : Int32))).toUInt32.toUInt16.toUInt32.toInt32), .val (.int (p3 &&& (3 : Int32))), .val .null, .val (.int (0 : Int32)), .val (.ref a3), .val (.ref b6), .unset, .unset] [.null, .null])) (fun t kt => XS.aload X7.here hx rfl (hb hby at_168) rfl rfl kt) ?_
      refine Go.st (S' := T7.setTop (mkF m 173 #[.val (.int p0), .val (.int p1), .val (.int p2), .val (.int p3), .val (.int ((p0 &&& (255 : Int32))).toUInt32.toUInt16.toUInt32.toInt32), .val (.int (((XT.ushr p0 (8 : Int32)) &&& (255 : Int32))).toUInt32.toUInt16.toUInt32.toInt32), .val (.int (p3 &&& (3 : Int32))), .val .null, .val (.int (0 : Int32)), .val (.ref a3), .val (.ref b6), .unset, .unset] [])) (fun t kt => XT.acmpNo X7.here hx rfl (hb hby at_170) rfl rfl rfl (XT.aa_ne_f rfl) kt) ?_
      refine Go.st (S' := T7.setTop (mkF m 175 #[.val (.int p0), .val (.int p1), .val (.int p2), .val (.int p3), .val (.int ((p0 &&& (255 : Int32))).toUInt32.toUInt16.toUInt32.toInt32), .val (.int (((XT.ushr p0 (8 : Int32)) &&& (255 : Int32))).toUInt32.toUInt16.toUInt32.toInt32), .val (.int (p3 &&& (3 : Int32))), .val .null, .val (.int (0 : Int32)), .val (.ref a3), .val (.ref b6), .unset, .unset] [(.ref b6)])) (fun t kt => XS.aload X7.here hx rfl (hb hby at_173) rfl rfl kt) ?_
      refine Go.virt X7 hx hZ hown (hw _ (List.mem_of_getElem? (i := 55) rfl)) (hw _ (List.mem_of_getElem? (i := 56) rfl)) (notFace_of_selects (mvT (args := #[]) hZ (hw _ (List.mem_of_getElem? (i := 58) rfl)))) (hw _ (List.mem_of_getElem? (i := 58) rfl)) (hw _ (List.mem_of_getElem? (i := 57) rfl)) (hw _ (List.mem_of_getElem? (i := 59) rfl)) (hw _ (List.mem_of_getElem? (i := 32) rfl)) (by decide) (b := b6) (argsL := []) (rest := []) (rm7 l Z a0 hw b6 p1 T6.heap n0 Z6 f6_2) e7 f6_0 rfl (by rw [hml]; rfl) pd___I rfl (hb hby at_175) 0 (Nat.le_refl _) (by decide) (by decide) (by decide) (by decide) ?_
      intro v8 T8 L8 X8 hQ8
      obtain ⟨hv8, N8', e8⟩ := hQ8
      subst hv8
      have N8 := Fr.app N7 N8'
      show Go pP eE below _ (T8.setTop (mkF m 178 #[.val (.int p0), .val (.int p1), .val (.int p2), .val (.int p3), .val (.int ((p0 &&& (255 : Int32))).toUInt32.toUInt16.toUInt32.toInt32), .val (.int (((XT.ushr p0 (8 : Int32)) &&& (255 : Int32))).toUInt32.toUInt16.toUInt32.toInt32), .val (.int (p3 &&& (3 : Int32))), .val .null, .val (.int (0 : Int32)), .val (.ref a3), .val (.ref b6), .unset, .unset] [(.int p1)]))
      refine Go.st (S' := T8.setTop (mkF m 179 #[.val (.int p0), .val (.int p1), .val (.int p2), .val (.int p3), .val (.int ((p0 &&& (255 : Int32))).toUInt32.toUInt16.toUInt32.toInt32), .val (.int (((XT.ushr p0 (8 : Int32)) &&& (255 : Int32))).toUInt32.toUInt16.toUInt32.toInt32), .val (.int (p3 &&& (3 : Int32))), .val .null, .val (.int (0 : Int32)), .val (.ref a3), .val (.ref b6), .unset, .unset] [(.int p1), (.int p1)])) (fun t kt => XS.iloadN X8.here hx rfl (hb hby at_178) rfl kt) ?_
      refine Go.st (S' := T8.setTop (mkF m 182 #[.val (.int p0), .val (.int p1), .val (.int p2), .val (.int p3), .val (.int ((p0 &&& (255 : Int32))).toUInt32.toUInt16.toUInt32.toInt32), .val (.int (((XT.ushr p0 (8 : Int32)) &&& (255 : Int32))).toUInt32.toUInt16.toUInt32.toInt32), .val (.int (p3 &&& (3 : Int32))), .val .null, .val (.int (0 : Int32)), .val (.ref a3), .val (.ref b6), .unset, .unset] [])) (fun t kt => XS.icmpNo X8.here hx rfl (hb hby at_179) rfl (XT.ii_ne_f rfl) kt) ?_
      refine Go.st (S' := T8.setTop (mkF m 184 #[.val (.int p0), .val (.int p1), .val (.int p2), .val (.int p3), .val (.int ((p0 &&& (255 : Int32))).toUInt32.toUInt16.toUInt32.toInt32), .val (.int (((XT.ushr p0 (8 : Int32)) &&& (255 : Int32))).toUInt32.toUInt16.toUInt32.toInt32), .val (.int (p3 &&& (3 : Int32))), .val .null, .val (.int (0 : Int32)), .val (.ref a3), .val (.ref b6), .unset, .unset] [(.ref b6)])) (fun t kt => XS.aload X8.here hx rfl (hb hby at_182) rfl rfl kt) ?_
      refine Go.virt X8 hx hZ hown (hw _ (List.mem_of_getElem? (i := 60) rfl)) (hw _ (List.mem_of_getElem? (i := 61) rfl)) (notFace_of_selects (mvT (args := #[]) hZ (hw _ (List.mem_of_getElem? (i := 63) rfl)))) (hw _ (List.mem_of_getElem? (i := 63) rfl)) (hw _ (List.mem_of_getElem? (i := 62) rfl)) (hw _ (List.mem_of_getElem? (i := 64) rfl)) (hw _ (List.mem_of_getElem? (i := 32) rfl)) (by decide) (b := b6) (argsL := []) (rest := []) (rm8 l Z a0 hw b6 p2 T6.heap n0 Z6 f6_3) e8 f6_0 rfl (by rw [hml]; rfl) pd___I rfl (hb hby at_184) 0 (Nat.le_refl _) (by decide) (by decide) (by decide) (by decide) ?_
      intro v9 T9 L9 X9 hQ9
      obtain ⟨hv9, N9', e9⟩ := hQ9
      subst hv9
      have N9 := Fr.app N8 N9'
      show Go pP eE below _ (T9.setTop (mkF m 187 #[.val (.int p0), .val (.int p1), .val (.int p2), .val (.int p3), .val (.int ((p0 &&& (255 : Int32))).toUInt32.toUInt16.toUInt32.toInt32), .val (.int (((XT.ushr p0 (8 : Int32)) &&& (255 : Int32))).toUInt32.toUInt16.toUInt32.toInt32), .val (.int (p3 &&& (3 : Int32))), .val .null, .val (.int (0 : Int32)), .val (.ref a3), .val (.ref b6), .unset, .unset] [(.int p2)]))
      refine Go.st (S' := T9.setTop (mkF m 188 #[.val (.int p0), .val (.int p1), .val (.int p2), .val (.int p3), .val (.int ((p0 &&& (255 : Int32))).toUInt32.toUInt16.toUInt32.toInt32), .val (.int (((XT.ushr p0 (8 : Int32)) &&& (255 : Int32))).toUInt32.toUInt16.toUInt32.toInt32), .val (.int (p3 &&& (3 : Int32))), .val .null, .val (.int (0 : Int32)), .val (.ref a3), .val (.ref b6), .unset, .unset] [(.int p2), (.int p2)])) (fun t kt => XS.iloadN X9.here hx rfl (hb hby at_187) rfl kt) ?_
      refine Go.st (S' := T9.setTop (mkF m 191 #[.val (.int p0), .val (.int p1), .val (.int p2), .val (.int p3), .val (.int ((p0 &&& (255 : Int32))).toUInt32.toUInt16.toUInt32.toInt32), .val (.int (((XT.ushr p0 (8 : Int32)) &&& (255 : Int32))).toUInt32.toUInt16.toUInt32.toInt32), .val (.int (p3 &&& (3 : Int32))), .val .null, .val (.int (0 : Int32)), .val (.ref a3), .val (.ref b6), .unset, .unset] [])) (fun t kt => XS.icmpNo X9.here hx rfl (hb hby at_188) rfl (XT.ii_ne_f rfl) kt) ?_
      refine Go.st (S' := T9.setTop (mkF m 193 #[.val (.int p0), .val (.int p1), .val (.int p2), .val (.int p3), .val (.int ((p0 &&& (255 : Int32))).toUInt32.toUInt16.toUInt32.toInt32), .val (.int (((XT.ushr p0 (8 : Int32)) &&& (255 : Int32))).toUInt32.toUInt16.toUInt32.toInt32), .val (.int (p3 &&& (3 : Int32))), .val .null, .val (.int (0 : Int32)), .val (.ref a3), .val (.ref b6), .unset, .unset] [(.ref b6)])) (fun t kt => XS.aload X9.here hx rfl (hb hby at_191) rfl rfl kt) ?_
      refine Go.virt X9 hx hZ hown (hw _ (List.mem_of_getElem? (i := 65) rfl)) (hw _ (List.mem_of_getElem? (i := 66) rfl)) (notFace_of_selects (mvT (args := #[]) hZ (hw _ (List.mem_of_getElem? (i := 68) rfl)))) (hw _ (List.mem_of_getElem? (i := 68) rfl)) (hw _ (List.mem_of_getElem? (i := 67) rfl)) (hw _ (List.mem_of_getElem? (i := 69) rfl)) (hw _ (List.mem_of_getElem? (i := 32) rfl)) (by decide) (b := b6) (argsL := []) (rest := []) (rm9 l Z a0 hw b6 .null rfl T6.heap n0 Z6 f6_4) e9 f6_0 rfl (by rw [hml]; rfl) pd___Lcom_example_seatwright_seatwright_engine_Bucket_ rfl (hb hby at_193) 0 (Nat.le_refl _) (by decide) (by decide) (by decide) (by decide) ?_
      intro v10 T10 L10 X10 hQ10
      obtain ⟨hv10, N10', e10⟩ := hQ10
      subst hv10
      have N10 := Fr.app N9 N10'
      show Go pP eE below _ (T10.setTop (mkF m 196 #[.val (.int p0), .val (.int p1), .val (.int p2), .val (.int p3), .val (.int ((p0 &&& (255 : Int32))).toUInt32.toUInt16.toUInt32.toInt32), .val (.int (((XT.ushr p0 (8 : Int32)) &&& (255 : Int32))).toUInt32.toUInt16.toUInt32.toInt32), .val (.int (p3 &&& (3 : Int32))), .val .null, .val (.int (0 : Int32)), .val (.ref a3), .val (.ref b6), .unset, .unset] [.null]))
      refine Go.st (S' := T10.setTop (mkF m 199 #[.val (.int p0), .val (.int p1), .val (.int p2), .val (.int p3), .val (.int ((p0 &&& (255 : Int32))).toUInt32.toUInt16.toUInt32.toInt32), .val (.int (((XT.ushr p0 (8 : Int32)) &&& (255 : Int32))).toUInt32.toUInt16.toUInt32.toInt32), .val (.int (p3 &&& (3 : Int32))), .val .null, .val (.int (0 : Int32)), .val (.ref a3), .val (.ref b6), .unset, .unset] [])) (fun t kt => XT.ifnonnullNo X10.here hx rfl (hb hby at_196) rfl kt) ?_
      refine Go.st (S' := T10.setTop (mkF m 200 #[.val (.int p0), .val (.int p1), .val (.int p2), .val (.int p3), .val (.int ((p0 &&& (255 : Int32))).toUInt32.toUInt16.toUInt32.toInt32), .val (.int (((XT.ushr p0 (8 : Int32)) &&& (255 : Int32))).toUInt32.toUInt16.toUInt32.toInt32), .val (.int (p3 &&& (3 : Int32))), .val .null, .val (.int (0 : Int32)), .val (.ref a3), .val (.ref b6), .unset, .unset] [(.int (1 : Int32))])) (fun t kt => XS.iconst X10.here hx rfl (hb hby at_199) kt) ?_
      refine Go.st (S' := T10.setTop (mkF m 204 #[.val (.int p0), .val (.int p1), .val (.int p2), .val (.int p3), .val (.int ((p0 &&& (255 : Int32))).toUInt32.toUInt16.toUInt32.toInt32), .val (.int (((XT.ushr p0 (8 : Int32)) &&& (255 : Int32))).toUInt32.toUInt16.toUInt32.toInt32), .val (.int (p3 &&& (3 : Int32))), .val .null, .val (.int (0 : Int32)), .val (.ref a3), .val (.ref b6), .unset, .unset] [(.int (1 : Int32))])) (fun t kt => XS.goto X10.here hx rfl (pc0 := 200) (pc' := 204) rfl (hb hby at_200) (by decide) (by decide) kt) ?_
      refine Go.st (S' := T10.setTop (mkF m 206 #[.val (.int p0), .val (.int p1), .val (.int p2), .val (.int p3), .val (.int ((p0 &&& (255 : Int32))).toUInt32.toUInt16.toUInt32.toInt32), .val (.int (((XT.ushr p0 (8 : Int32)) &&& (255 : Int32))).toUInt32.toUInt16.toUInt32.toInt32), .val (.int (p3 &&& (3 : Int32))), .val .null, .val (.int (0 : Int32)), .val (.ref a3), .val (.ref b6), .val (.int (1 : Int32)), .unset] [])) (fun t kt => XS.istore X10.here hx rfl (hb hby at_204) rfl rfl kt) ?_
      refine Go.st (S' := T10.setTop (mkF m 208 #[.val (.int p0), .val (.int p1), .val (.int p2), .val (.int p3), .val (.int ((p0 &&& (255 : Int32))).toUInt32.toUInt16.toUInt32.toInt32), .val (.int (((XT.ushr p0 (8 : Int32)) &&& (255 : Int32))).toUInt32.toUInt16.toUInt32.toInt32), .val (.int (p3 &&& (3 : Int32))), .val .null, .val (.int (0 : Int32)), .val (.ref a3), .val (.ref b6), .val (.int (1 : Int32)), .unset] [(.ref a3)])) (fun t kt => XS.aload X10.here hx rfl (hb hby at_206) rfl rfl kt) ?_
      have f11 := (f4_0.keep K6')
      have f12 := (f4_1.keep K6' nin0)
      have f13 := (f4_2.keep K6' nin0)
      have f14 := (f4_3.keep K6' nin0)
      have f15 := (f4_4.keep K6' nin0)
      refine Go.virt X10 hx hZ hown (hw _ (List.mem_of_getElem? (i := 72) rfl)) (hw _ (List.mem_of_getElem? (i := 73) rfl)) (notFace_of_selects (mvT (args := #[]) hZ (hw _ (List.mem_of_getElem? (i := 75) rfl)))) (hw _ (List.mem_of_getElem? (i := 75) rfl)) (hw _ (List.mem_of_getElem? (i := 74) rfl)) (hw _ (List.mem_of_getElem? (i := 76) rfl)) (hw _ (List.mem_of_getElem? (i := 32) rfl)) (by decide) (b := a3) (argsL := []) (rest := []) (rm4 l Z a0 hw a3 .null rfl p1 p2 .null rfl T6.heap n0 Z6 f11 (Nat.le_trans Z0 (Nat.le_of_eq g3.symm)) f12 f13 f14 f15) e10 f11 rfl (by rw [hml]; rfl) pd___V rfl (hb hby at_208) 0 (Nat.le_refl _) (by decide) (by decide) (by decide) (by decide) ?_
      intro v16 T16 L16 X16 hQ16
      have f17 := (Safe.keep K6' all0 C4.1 (Safe.keep K4' (allS f5 all0) C3.1 f5))
      obtain ⟨hv16, N16', K16', f16_0, f16_1, f16_2, f16_3, f16_4⟩ := hQ16
      subst hv16
      have N16 := Fr.app N10 N16'
      have Z16 : n0 ≤ T16.heap.size := Nat.le_trans Z6 K16'.1
      have eh16 : T16.heap = T16.heap := rfl
      have C16 := CHr.trans C6 (CHr.keep K16' (allS f17 all0) C6.1)
      have hk := Nat.le_trans hk K16'.1
      show Go pP eE below _ (T16.setTop (mkF m 211 #[.val (.int p0), .val (.int p1), .val (.int p2), .val (.int p3), .val (.int ((p0 &&& (255 : Int32))).toUInt32.toUInt16.toUInt32.toInt32), .val (.int (((XT.ushr p0 (8 : Int32)) &&& (255 : Int32))).toUInt32.toUInt16.toUInt32.toInt32), .val (.int (p3 &&& (3 : Int32))), .val .null, .val (.int (0 : Int32)), .val (.ref a3), .val (.ref b6), .val (.int (1 : Int32)), .unset] []))
      refine Go.st (S' := T16.setTop (mkF m 213 #[.val (.int p0), .val (.int p1), .val (.int p2), .val (.int p3), .val (.int ((p0 &&& (255 : Int32))).toUInt32.toUInt16.toUInt32.toInt32), .val (.int (((XT.ushr p0 (8 : Int32)) &&& (255 : Int32))).toUInt32.toUInt16.toUInt32.toInt32), .val (.int (p3 &&& (3 : Int32))), .val .null, .val (.int (0 : Int32)), .val (.ref a3), .val (.ref b6), .val (.int (1 : Int32)), .unset] [(.ref b6)])) (fun t kt => XS.aload X16.here hx rfl (hb hby at_211) rfl rfl kt) ?_
      have f18 := (f6_3.keep K16' (ninS (Ne.symm (Nat.ne_of_lt (Nat.lt_of_lt_of_le f4_0.lt y6_0))) nin0))
      have f20 := (f6_0.keep K16')
      refine Go.virt X16 hx hZ hown (hw _ (List.mem_of_getElem? (i := 60) rfl)) (hw _ (List.mem_of_getElem? (i := 61) rfl)) (notFace_of_selects (mvT (args := #[]) hZ (hw _ (List.mem_of_getElem? (i := 63) rfl)))) (hw _ (List.mem_of_getElem? (i := 63) rfl)) (hw _ (List.mem_of_getElem? (i := 62) rfl)) (hw _ (List.mem_of_getElem? (i := 64) rfl)) (hw _ (List.mem_of_getElem? (i := 32) rfl)) (by decide) (b := b6) (argsL := []) (rest := []) (rm8 l Z a0 hw b6 p2 T16.heap n0 Z16 f18) eh16 f20 rfl (by rw [hml]; rfl) pd___I rfl (hb hby at_213) 0 (Nat.le_refl _) (by decide) (by decide) (by decide) (by decide) ?_
      intro v19 T19 L19 X19 hQ19
      obtain ⟨hv19, N19', e19⟩ := hQ19
      subst hv19
      have N19 := Fr.app N16 N19'
      show Go pP eE below _ (T19.setTop (mkF m 216 #[.val (.int p0), .val (.int p1), .val (.int p2), .val (.int p3), .val (.int ((p0 &&& (255 : Int32))).toUInt32.toUInt16.toUInt32.toInt32), .val (.int (((XT.ushr p0 (8 : Int32)) &&& (255 : Int32))).toUInt32.toUInt16.toUInt32.toInt32), .val (.int (p3 &&& (3 : Int32))), .val .null, .val (.int (0 : Int32)), .val (.ref a3), .val (.ref b6), .val (.int (1 : Int32)), .unset] [(.int p2)]))
      refine Go.st (S' := T19.setTop (mkF m 217 #[.val (.int p0), .val (.int p1), .val (.int p2), .val (.int p3), .val (.int ((p0 &&& (255 : Int32))).toUInt32.toUInt16.toUInt32.toInt32), .val (.int (((XT.ushr p0 (8 : Int32)) &&& (255 : Int32))).toUInt32.toUInt16.toUInt32.toInt32), .val (.int (p3 &&& (3 : Int32))), .val .null, .val (.int (0 : Int32)), .val (.ref a3), .val (.ref b6), .val (.int (1 : Int32)), .unset] [(.int p2), (.int p2)])) (fun t kt => XS.iloadN X19.here hx rfl (hb hby at_216) rfl kt) ?_
      refine Go.st (S' := T19.setTop (mkF m 220 #[.val (.int p0), .val (.int p1), .val (.int p2), .val (.int p3), .val (.int ((p0 &&& (255 : Int32))).toUInt32.toUInt16.toUInt32.toInt32), .val (.int (((XT.ushr p0 (8 : Int32)) &&& (255 : Int32))).toUInt32.toUInt16.toUInt32.toInt32), .val (.int (p3 &&& (3 : Int32))), .val .null, .val (.int (0 : Int32)), .val (.ref a3), .val (.ref b6), .val (.int (1 : Int32)), .unset] [])) (fun t kt => XS.icmpNo X19.here hx rfl (hb hby at_217) rfl (XT.ii_ne_f rfl) kt) ?_
      refine Go.st (S' := T19.setTop (mkF m 221 #[.val (.int p0), .val (.int p1), .val (.int p2), .val (.int p3), .val (.int ((p0 &&& (255 : Int32))).toUInt32.toUInt16.toUInt32.toInt32), .val (.int (((XT.ushr p0 (8 : Int32)) &&& (255 : Int32))).toUInt32.toUInt16.toUInt32.toInt32), .val (.int (p3 &&& (3 : Int32))), .val .null, .val (.int (0 : Int32)), .val (.ref a3), .val (.ref b6), .val (.int (1 : Int32)), .unset] [(.int (1 : Int32))])) (fun t kt => XS.iconst X19.here hx rfl (hb hby at_220) kt) ?_
      refine Go.st (S' := T19.setTop (mkF m 225 #[.val (.int p0), .val (.int p1), .val (.int p2), .val (.int p3), .val (.int ((p0 &&& (255 : Int32))).toUInt32.toUInt16.toUInt32.toInt32), .val (.int (((XT.ushr p0 (8 : Int32)) &&& (255 : Int32))).toUInt32.toUInt16.toUInt32.toInt32), .val (.int (p3 &&& (3 : Int32))), .val .null, .val (.int (0 : Int32)), .val (.ref a3), .val (.ref b6), .val (.int (1 : Int32)), .unset] [(.int (1 : Int32))])) (fun t kt => XS.goto X19.here hx rfl (pc0 := 221) (pc' := 225) rfl (hb hby at_221) (by decide) (by decide) kt) ?_
      refine Go.st (S' := T19.setTop (mkF m 227 #[.val (.int p0), .val (.int p1), .val (.int p2), .val (.int p3), .val (.int ((p0 &&& (255 : Int32))).toUInt32.toUInt16.toUInt32.toInt32), .val (.int (((XT.ushr p0 (8 : Int32)) &&& (255 : Int32))).toUInt32.toUInt16.toUInt32.toInt32), .val (.int (p3 &&& (3 : Int32))), .val .null, .val (.int (0 : Int32)), .val (.ref a3), .val (.ref b6), .val (.int (1 : Int32)), .val (.int (1 : Int32))] [])) (fun t kt => XS.istore X19.here hx rfl (hb hby at_225) rfl rfl kt) ?_
      refine Go.st (S' := T19.setTop (mkF m 229 #[.val (.int p0), .val (.int p1), .val (.int p2), .val (.int p3), .val (.int ((p0 &&& (255 : Int32))).toUInt32.toUInt16.toUInt32.toInt32), .val (.int (((XT.ushr p0 (8 : Int32)) &&& (255 : Int32))).toUInt32.toUInt16.toUInt32.toInt32), .val (.int (p3 &&& (3 : Int32))), .val .null, .val (.int (0 : Int32)), .val (.ref a3), .val (.ref b6), .val (.int (1 : Int32)), .val (.int (1 : Int32))] [(.int (1 : Int32))])) (fun t kt => XS.iload X19.here hx rfl (hb hby at_227) rfl kt) ?_
      refine Go.st (S' := T19.setTop (mkF m 232 #[.val (.int p0), .val (.int p1), .val (.int p2), .val (.int p3), .val (.int ((p0 &&& (255 : Int32))).toUInt32.toUInt16.toUInt32.toInt32), .val (.int (((XT.ushr p0 (8 : Int32)) &&& (255 : Int32))).toUInt32.toUInt16.toUInt32.toInt32), .val (.int (p3 &&& (3 : Int32))), .val .null, .val (.int (0 : Int32)), .val (.ref a3), .val (.ref b6), .val (.int (1 : Int32)), .val (.int (1 : Int32))] [])) (fun t kt => XS.ifNo X19.here hx rfl (hb hby at_229) rfl (XT.i0_eq_f (by decide)) kt) ?_
      refine Go.st (S' := T19.setTop (mkF m 234 #[.val (.int p0), .val (.int p1), .val (.int p2), .val (.int p3), .val (.int ((p0 &&& (255 : Int32))).toUInt32.toUInt16.toUInt32.toInt32), .val (.int (((XT.ushr p0 (8 : Int32)) &&& (255 : Int32))).toUInt32.toUInt16.toUInt32.toInt32), .val (.int (p3 &&& (3 : Int32))), .val .null, .val (.int (0 : Int32)), .val (.ref a3), .val (.ref b6), .val (.int (1 : Int32)), .val (.int (1 : Int32))] [(.int (1 : Int32))])) (fun t kt => XS.iload X19.here hx rfl (hb hby at_232) rfl kt) ?_
      refine Go.st (S' := T19.setTop (mkF m 237 #[.val (.int p0), .val (.int p1), .val (.int p2), .val (.int p3), .val (.int ((p0 &&& (255 : Int32))).toUInt32.toUInt16.toUInt32.toInt32), .val (.int (((XT.ushr p0 (8 : Int32)) &&& (255 : Int32))).toUInt32.toUInt16.toUInt32.toInt32), .val (.int (p3 &&& (3 : Int32))), .val .null, .val (.int (0 : Int32)), .val (.ref a3), .val (.ref b6), .val (.int (1 : Int32)), .val (.int (1 : Int32))] [])) (fun t kt => XS.ifNo X19.here hx rfl (hb hby at_234) rfl (XT.i0_eq_f (by decide)) kt) ?_
      refine Go.st (S' := T19.setTop (mkF m 238 #[.val (.int p0), .val (.int p1), .val (.int p2), .val (.int p3), .val (.int ((p0 &&& (255 : Int32))).toUInt32.toUInt16.toUInt32.toInt32), .val (.int (((XT.ushr p0 (8 : Int32)) &&& (255 : Int32))).toUInt32.toUInt16.toUInt32.toInt32), .val (.int (p3 &&& (3 : Int32))), .val .null, .val (.int (0 : Int32)), .val (.ref a3), .val (.ref b6), .val (.int (1 : Int32)), .val (.int (1 : Int32))] [(.int (1 : Int32))])) (fun t kt => XS.iconst X19.here hx rfl (hb hby at_237) kt) ?_
      refine Go.st (S' := T19.setTop (mkF m 242 #[.val (.int p0), .val (.int p1), .val (.int p2), .val (.int p3), .val (.int ((p0 &&& (255 : Int32))).toUInt32.toUInt16.toUInt32.toInt32), .val (.int (((XT.ushr p0 (8 : Int32)) &&& (255 : Int32))).toUInt32.toUInt16.toUInt32.toInt32), .val (.int (p3 &&& (3 : Int32))), .val .null, .val (.int (0 : Int32)), .val (.ref a3), .val (.ref b6), .val (.int (1 : Int32)), .val (.int (1 : Int32))] [(.int (1 : Int32))])) (fun t kt => XS.goto X19.here hx rfl (pc0 := 238) (pc' := 242) rfl (hb hby at_238) (by decide) (by decide) kt) ?_
      exact retw_b X19 hZ hEL e19 C16 hS hk hx hlk hret (hb hby at_242) (by decide) (by decide) (⟨rfl, N19⟩)
    · refine Go.st (S' := T.setTop (mkF m 110 #[.val (.int p0), .val (.int p1), .val (.int p2), .val (.int p3), .val (.int ((p0 &&& (255 : Int32))).toUInt32.toUInt16.toUInt32.toInt32), .val (.int (((XT.ushr p0 (8 : Int32)) &&& (255 : Int32))).toUInt32.toUInt16.toUInt32.toInt32), .val (.int (p3 &&& (3 : Int32))), .val .null, .unset, .unset, .unset, .unset, .unset] [])) (fun t kt => XS.ifNo X.here hx rfl (hb hby at_107) rfl (XT.i0_eq_f hc107_2) kt) ?_
      refine Go.st (S' := T.setTop (mkF m 111 #[.val (.int p0), .val (.int p1), .val (.int p2), .val (.int p3), .val (.int ((p0 &&& (255 : Int32))).toUInt32.toUInt16.toUInt32.toInt32), .val (.int (((XT.ushr p0 (8 : Int32)) &&& (255 : Int32))).toUInt32.toUInt16.toUInt32.toInt32), .val (.int (p3 &&& (3 : Int32))), .val .null, .unset, .unset, .unset, .unset, .unset] [(.int (1 : Int32))])) (fun t kt => XS.iconst X.here hx rfl (hb hby at_110) kt) ?_
      refine Go.st (S' := T.setTop (mkF m 115 #[.val (.int p0), .val (.int p1), .val (.int p2), .val (.int p3), .val (.int ((p0 &&& (255 : Int32))).toUInt32.toUInt16.toUInt32.toInt32), .val (.int (((XT.ushr p0 (8 : Int32)) &&& (255 : Int32))).toUInt32.toUInt16.toUInt32.toInt32), .val (.int (p3 &&& (3 : Int32))), .val .null, .unset, .unset, .unset, .unset, .unset] [(.int (1 : Int32))])) (fun t kt => XS.goto X.here hx rfl (pc0 := 111) (pc' := 115) rfl (hb hby at_111) (by decide) (by decide) kt) ?_
      refine Go.st (S' := T.setTop (mkF m 117 #[.val (.int p0), .val (.int p1), .val (.int p2), .val (.int p3), .val (.int ((p0 &&& (255 : Int32))).toUInt32.toUInt16.toUInt32.toInt32), .val (.int (((XT.ushr p0 (8 : Int32)) &&& (255 : Int32))).toUInt32.toUInt16.toUInt32.toInt32), .val (.int (p3 &&& (3 : Int32))), .val .null, .val (.int (1 : Int32)), .unset, .unset, .unset, .unset] [])) (fun t kt => XS.istore X.here hx rfl (hb hby at_115) rfl rfl kt) ?_
      obtain ⟨T21, h21, X21, e21, E21, A21, D21, -, st21⟩ := newO X hx hZ hown (hw _ (List.mem_of_getElem? (i := 30) rfl)) (hw _ (List.mem_of_getElem? (i := 31) rfl)) (hw _ (List.mem_of_getElem? (i := 32) rfl)) eT (g := (mkF m 117 #[.val (.int p0), .val (.int p1), .val (.int p2), .val (.int p3), .val (.int ((p0 &&& (255 : Int32))).toUInt32.toUInt16.toUInt32.toInt32), .val (.int (((XT.ushr p0 (8 : Int32)) &&& (255 : Int32))).toUInt32.toUInt16.toUInt32.toInt32), .val (.int (p3 &&& (3 : Int32))), .val .null, .val (.int (1 : Int32)), .unset, .unset, .unset, .unset] [])) rfl (hb hby at_117) (by decide) (by decide)
      obtain ⟨a21, g21⟩ : ∃ z, z = h0.size := ⟨_, rfl⟩
      rw [← g21] at A21 D21 st21
      have Z21 : n0 ≤ h21.size := Nat.le_trans Z0 E21.1
      have S21 : Safe Z own_EL sS.vm h0 a21 := Safe.new (Nat.le_of_eq g21.symm)
      have C21 := CHr.trans C0 (CHr.ext E21 C0.1)
      have hk := Nat.le_trans hk E21.1
      have F21_unit : Fld Z h21 a21 "com/example/seatwright/seatwright/engine/Bucket" "unit" "Ljava/lang/String;" .null := D21 (Or.inr (hw _ (List.mem_of_getElem? (i := 38) rfl))) (ty := (.object "java/lang/String")) (by decide)
      have F21_size : Fld Z h21 a21 "com/example/seatwright/seatwright/engine/Bucket" "size" "I" (.int (0 : Int32)) := D21 (Or.inr (hw _ (List.mem_of_getElem? (i := 40) rfl))) (ty := .int) (by decide)
      have F21_inUse : Fld Z h21 a21 "com/example/seatwright/seatwright/engine/Bucket" "inUse" "I" (.int (0 : Int32)) := D21 (Or.inl (hw _ (List.mem_of_getElem? (i := 42) rfl))) (ty := .int) (by decide)
      have F21_above : Fld Z h21 a21 "com/example/seatwright/seatwright/engine/Bucket" "above" "Lcom/example/seatwright/seatwright/engine/Bucket;" .null := D21 (Or.inl (hw _ (List.mem_of_getElem? (i := 71) rfl))) (ty := (.object "com/example/seatwright/seatwright/engine/Bucket")) (by decide)
      refine Go.st (S' := T21.setTop (mkF m 120 #[.val (.int p0), .val (.int p1), .val (.int p2), .val (.int p3), .val (.int ((p0 &&& (255 : Int32))).toUInt32.toUInt16.toUInt32.toInt32), .val (.int (((XT.ushr p0 (8 : Int32)) &&& (255 : Int32))).toUInt32.toUInt16.toUInt32.toInt32), .val (.int (p3 &&& (3 : Int32))), .val .null, .val (.int (1 : Int32)), .unset, .unset, .unset, .unset] [(.ref a21)])) (fun t kt => st21 t kt) ?_
      refine Go.st (S' := T21.setTop (mkF m 121 #[.val (.int p0), .val (.int p1), .val (.int p2), .val (.int p3), .val (.int ((p0 &&& (255 : Int32))).toUInt32.toUInt16.toUInt32.toInt32), .val (.int (((XT.ushr p0 (8 : Int32)) &&& (255 : Int32))).toUInt32.toUInt16.toUInt32.toInt32), .val (.int (p3 &&& (3 : Int32))), .val .null, .val (.int (1 : Int32)), .unset, .unset, .unset, .unset] [(.ref a21), (.ref a21)])) (fun t kt => XS.dup X21.here hx rfl (hb hby at_120) rfl rfl kt) ?_
      refine Go.st (S' := T21.setTop (mkF m 123 #[.val (.int p0), .val (.int p1), .val (.int p2), .val (.int p3), .val (.int ((p0 &&& (255 : Int32))).toUInt32.toUInt16.toUInt32.toInt32), .val (.int (((XT.ushr p0 (8 : Int32)) &&& (255 : Int32))).toUInt32.toUInt16.toUInt32.toInt32), .val (.int (p3 &&& (3 : Int32))), .val .null, .val (.int (1 : Int32)), .unset, .unset, .unset, .unset] [.null, (.ref a21), (.ref a21)])) (fun t kt => XS.aload X21.here hx rfl (hb hby at_121) rfl rfl kt) ?_
      refine Go.st (S' := T21.setTop (mkF m 124 #[.val (.int p0), .val (.int p1), .val (.int p2), .val (.int p3), .val (.int ((p0 &&& (255 : Int32))).toUInt32.toUInt16.toUInt32.toInt32), .val (.int (((XT.ushr p0 (8 : Int32)) &&& (255 : Int32))).toUInt32.toUInt16.toUInt32.toInt32), .val (.int (p3 &&& (3 : Int32))), .val .null, .val (.int (1 : Int32)), .unset, .unset, .unset, .unset] [(.int p1), .null, (.ref a21), (.ref a21)])) (fun t kt => XS.iloadN X21.here hx rfl (hb hby at_123) rfl kt) ?_
      refine Go.st (S' := T21.setTop (mkF m 125 #[.val (.int p0), .val (.int p1), .val (.int p2), .val (.int p3), .val (.int ((p0 &&& (255 : Int32))).toUInt32.toUInt16.toUInt32.toInt32), .val (.int (((XT.ushr p0 (8 : Int32)) &&& (255 : Int32))).toUInt32.toUInt16.toUInt32.toInt32), .val (.int (p3 &&& (3 : Int32))), .val .null, .val (.int (1 : Int32)), .unset, .unset, .unset, .unset] [(.int p2), (.int p1), .null, (.ref a21), (.ref a21)])) (fun t kt => XS.iloadN X21.here hx rfl (hb hby at_124) rfl kt) ?_
      refine Go.init X21 hx hZ rfl hown (hw _ (List.mem_of_getElem? (i := 33) rfl)) (hw _ (List.mem_of_getElem? (i := 34) rfl)) (hw _ (List.mem_of_getElem? (i := 35) rfl)) (hw _ (List.mem_of_getElem? (i := 32) rfl)) (by decide) (b := a21) (argsL := [.null, (.int p1), (.int p2)]) (rest := [(.ref a21)]) (rm2 l Z a0 hw a21 .null rfl p1 p2 h21 n0 Z21 A21 (Nat.le_trans Z0 (Nat.le_of_eq g21.symm)) F21_unit F21_size F21_inUse F21_above) e21 rfl (by rw [hml]; rfl) pd__Ljava_lang_String_II_V rfl (hb hby at_125) 1 (Nat.le_refl _) (by decide) (by decide) (by decide) (by decide) ?_
      intro v22 T22 L22 X22 hQ22
      have f23 := (Safe.ext E21 C0.1 S21)
      obtain ⟨hv22, N22', K22', f22_0, f22_1, f22_2, f22_3, f22_4⟩ := hQ22
      subst hv22
      have N22 := Fr.app N0 N22'
      have Z22 : n0 ≤ T22.heap.size := Nat.le_trans Z21 K22'.1
      have eh22 : T22.heap = T22.heap := rfl
      have C22 := CHr.trans C21 (CHr.keep K22' (allS f23 all0) C21.1)
      have hk := Nat.le_trans hk K22'.1
      show Go pP eE below _ (T22.setTop (mkF m 128 #[.val (.int p0), .val (.int p1), .val (.int p2), .val (.int p3), .val (.int ((p0 &&& (255 : Int32))).toUInt32.toUInt16.toUInt32.toInt32), .val (.int (((XT.ushr p0 (8 : Int32)) &&& (255 : Int32))).toUInt32.toUInt16.toUInt32.toInt32), .val (.int (p3 &&& (3 : Int32))), .val .null, .val (.int (1 : Int32)), .unset, .unset, .unset, .unset] [(.ref a21)]))
      refine Go.st (S' := T22.setTop (mkF m 130 #[.val (.int p0), .val (.int p1), .val (.int p2), .val (.int p3), .val (.int ((p0 &&& (255 : Int32))).toUInt32.toUInt16.toUInt32.toInt32), .val (.int (((XT.ushr p0 (8 : Int32)) &&& (255 : Int32))).toUInt32.toUInt16.toUInt32.toInt32), .val (.int (p3 &&& (3 : Int32))), .val .null, .val (.int (1 : Int32)), .val (.ref a21), .unset, .unset, .unset] [])) (fun t kt => XS.astore X22.here hx rfl (hb hby at_128) rfl rfl rfl kt) ?_
      refine Go.st (S' := T22.setTop (mkF m 132 #[.val (.int p0), .val (.int p1), .val (.int p2), .val (.int p3), .val (.int ((p0 &&& (255 : Int32))).toUInt32.toUInt16.toUInt32.toInt32), .val (.int (((XT.ushr p0 (8 : Int32)) &&& (255 : Int32))).toUInt32.toUInt16.toUInt32.toInt32), .val (.int (p3 &&& (3 : Int32))), .val .null, .val (.int (1 : Int32)), .val (.ref a21), .unset, .unset, .unset] [(.int (1 : Int32))])) (fun t kt => XS.iload X22.here hx rfl (hb hby at_130) rfl kt) ?_
      refine Go.st (S' := T22.setTop (mkF m 135 #[.val (.int p0), .val (.int p1), .val (.int p2), .val (.int p3), .val (.int ((p0 &&& (255 : Int32))).toUInt32.toUInt16.toUInt32.toInt32), .val (.int (((XT.ushr p0 (8 : Int32)) &&& (255 : Int32))).toUInt32.toUInt16.toUInt32.toInt32), .val (.int (p3 &&& (3 : Int32))), .val .null, .val (.int (1 : Int32)), .val (.ref a21), .unset, .unset, .unset] [])) (fun t kt => XS.ifNo X22.here hx rfl (hb hby at_132) rfl (XT.i0_eq_f (by decide)) kt) ?_
      refine Go.st (S' := T22.setTop (mkF m 137 #[.val (.int p0), .val (.int p1), .val (.int p2), .val (.int p3), .val (.int ((p0 &&& (255 : Int32))).toUInt32.toUInt16.toUInt32.toInt32), .val (.int (((XT.ushr p0 (8 : Int32)) &&& (255 : Int32))).toUInt32.toUInt16.toUInt32.toInt32), .val (.int (p3 &&& (3 : Int32))), .val .null, .val (.int (1 : Int32)), .val (.ref a21), .unset, .unset, .unset] [(.ref a21)])) (fun t kt => XS.aload X22.here hx rfl (hb hby at_135) rfl rfl kt) ?_
      refine Go.st (S' := T22.setTop (mkF m 139 #[.val (.int p0), .val (.int p1), .val (.int p2), .val (.int p3), .val (.int ((p0 &&& (255 : Int32))).toUInt32.toUInt16.toUInt32.toInt32), .val (.int (((XT.ushr p0 (8 : Int32)) &&& (255 : Int32))).toUInt32.toUInt16.toUInt32.toInt32), .val (.int (p3 &&& (3 : Int32))), .val .null, .val (.int (1 : Int32)), .val (.ref a21), .unset, .unset, .unset] [(.ref a21), (.ref a21)])) (fun t kt => XS.aload X22.here hx rfl (hb hby at_137) rfl rfl kt) ?_
      refine Go.virt X22 hx hZ hown (hw _ (List.mem_of_getElem? (i := 77) rfl)) (hw _ (List.mem_of_getElem? (i := 78) rfl)) (notFace_of_selects (mvT (args := #[]) hZ (hw _ (List.mem_of_getElem? (i := 80) rfl)))) (hw _ (List.mem_of_getElem? (i := 80) rfl)) (hw _ (List.mem_of_getElem? (i := 79) rfl)) (hw _ (List.mem_of_getElem? (i := 81) rfl)) (hw _ (List.mem_of_getElem? (i := 32) rfl)) (by decide) (b := a21) (argsL := [(.ref a21)]) (rest := []) (rm5 l Z a0 hw a21 .null rfl p1 p2 .null rfl a21 T22.heap n0 Z22 f22_0 (Nat.le_trans Z0 (Nat.le_of_eq g21.symm)) f22_1 f22_2 f22_3 f22_4) eh22 f22_0 rfl (by rw [hml]; rfl) pd__Lcom_example_seatwright_seatwright_engine_Bucket__V rfl (hb hby at_139) 0 (Nat.le_refl _) (by decide) (by decide) (by decide) (by decide) ?_
      intro v24 T24 L24 X24 hQ24
      have f25 := (Safe.keep K22' (allS f23 all0) C21.1 f23)
      obtain ⟨hv24, N24', K24', f24_0, f24_1, f24_2, f24_3, f24_4⟩ := hQ24
      subst hv24
      have N24 := Fr.app N22 N24'
      have Z24 : n0 ≤ T24.heap.size := Nat.le_trans Z22 K24'.1
      have eh24 : T24.heap = T24.heap := rfl
      have C24 := CHr.trans C22 (CHr.keep K24' (allS f25 all0) C22.1)
      have hk := Nat.le_trans hk K24'.1
      show Go pP eE below _ (T24.setTop (mkF m 142 #[.val (.int p0), .val (.int p1), .val (.int p2), .val (.int p3), .val (.int ((p0 &&& (255 : Int32))).toUInt32.toUInt16.toUInt32.toInt32), .val (.int (((XT.ushr p0 (8 : Int32)) &&& (255 : Int32))).toUInt32.toUInt16.toUInt32.toInt32), .val (.int (p3 &&& (3 : Int32))), .val .null, .val (.int (1 : Int32)), .val (.ref a21), .unset, .unset, .unset] []))
      refine Go.st (S' := T24.setTop (mkF m 144 #[.val (.int p0), .val (.int p1), .val (.int p2), .val (.int p3), .val (.int ((p0 &&& (255 : Int32))).toUInt32.toUInt16.toUInt32.toInt32), .val (.int (((XT.ushr p0 (8 : Int32)) &&& (255 : Int32))).toUInt32.toUInt16.toUInt32.toInt32), .val (.int (p3 &&& (3 : Int32))), .val .null, .val (.int (1 : Int32)), .val (.ref a21), .unset, .unset, .unset] [(.ref a21)])) (fun t kt => XS.aload X24.here hx rfl (hb hby at_142) rfl rfl kt) ?_
      refine Go.virt X24 hx hZ hown (hw _ (List.mem_of_getElem? (i := 43) rfl)) (hw _ (List.mem_of_getElem? (i := 44) rfl)) (notFace_of_selects (mvT (args := #[]) hZ (hw _ (List.mem_of_getElem? (i := 46) rfl)))) (hw _ (List.mem_of_getElem? (i := 46) rfl)) (hw _ (List.mem_of_getElem? (i := 45) rfl)) (hw _ (List.mem_of_getElem? (i := 47) rfl)) (hw _ (List.mem_of_getElem? (i := 32) rfl)) (by decide) (b := a21) (argsL := []) (rest := []) (rm3 l Z a0 hw a21 .null rfl p1 p2 (.ref a21) rfl T24.heap n0 Z24 f24_0 (Nat.le_trans Z0 (Nat.le_of_eq g21.symm)) f24_1 f24_2 f24_3 f24_4) eh24 f24_0 rfl (by rw [hml]; rfl) pd___Lcom_example_seatwright_seatwright_engine_Bucket_ rfl (hb hby at_144) 0 (Nat.le_refl _) (by decide) (by decide) (by decide) (by decide) ?_
      intro v26 T26 L26 X26 hQ26
      obtain ⟨b26, hv26, N26', K26', y26_0, u26_0, f26_0, f26_1, f26_2, f26_3, f26_4⟩ := hQ26
      subst hv26
      have N26 := Fr.app N24 N26'
      have Z26 : n0 ≤ T26.heap.size := Nat.le_trans Z24 K26'.1
      have eh26 : T26.heap = T26.heap := rfl
      have C26 := CHr.trans C24 (CHr.keep K26' all0 C24.1)
      have hk := Nat.le_trans hk K26'.1
      show Go pP eE below _ (T26.setTop (mkF m 147 #[.val (.int p0), .val (.int p1), .val (.int p2), .val (.int p3), .val (.int ((p0 &&& (255 : Int32))).toUInt32.toUInt16.toUInt32.toInt32), .val (.int (((XT.ushr p0 (8 : Int32)) &&& (255 : Int32))).toUInt32.toUInt16.toUInt32.toInt32), .val (.int (p3 &&& (3 : Int32))), .val .null, .val (.int (1 : Int32)), .val (.ref a21), .unset, .unset, .unset] [(.ref b26)]))
      refine Go.st (S' := T26.setTop (mkF m 149 #[.val (.int p0), .val (.int p1), .val (.int p2), .val (.int p3), .val (.int ((p0 &&& (255 : Int32))).toUInt32.toUInt16.toUInt32.toInt32), .val (.int (((XT.ushr p0 (8 : Int32)) &&& (255 : Int32))).toUInt32.toUInt16.toUInt32.toInt32), .val (.int (p3 &&& (3 : Int32))), .val .null, .val (.int (1 : Int32)), .val (.ref a21), .val (.ref b26), .unset, .unset] [])) (fun t kt => XS.astore X26.here hx rfl (hb hby at_147) rfl rfl rfl kt) ?_
      refine Go.st (S' := T26.setTop (mkF m 151 #[.val (.int p0), .val (.int p1), .val (.int p2), .val (.int p3), .val (.int ((p0 &&& (255 : Int32))).toUInt32.toUInt16.toUInt32.toInt32), .val (.int (((XT.ushr p0 (8 : Int32)) &&& (255 : Int32))).toUInt32.toUInt16.toUInt32.toInt32), .val (.int (p3 &&& (3 : Int32))), .val .null, .val (.int (1 : Int32)), .val (.ref a21), .val (.ref b26), .unset, .unset] [(.ref b26)])) (fun t kt => XS.aload X26.here hx rfl (hb hby at_149) rfl rfl kt) ?_
      refine Go.st (S' := T26.setTop (mkF m 154 #[.val (.int p0), .val (.int p1), .val (.int p2), .val (.int p3), .val (.int ((p0 &&& (255 : Int32))).toUInt32.toUInt16.toUInt32.toInt32), .val (.int (((XT.ushr p0 (8 : Int32)) &&& (255 : Int32))).toUInt32.toUInt16.toUInt32.toInt32), .val (.int (p3 &&& (3 : Int32))), .val .null, .val (.int (1 : Int32)), .val (.ref a21), .val (.ref b26), .unset, .unset] [])) (fun t kt => XS.ifnullNo X26.here hx rfl (hb hby at_151) rfl kt) ?_
      refine Go.st (S' := T26.setTop (mkF m 156 #[.val (.int p0), .val (.int p1), .val (.int p2), .val (.int p3), .val (.int ((p0 &&& (255 : Int32))).toUInt32.toUInt16.toUInt32.toInt32), .val (.int (((XT.ushr p0 (8 : Int32)) &&& (255 : Int32))).toUInt32.toUInt16.toUInt32.toInt32), .val (.int (p3 &&& (3 : Int32))), .val .null, .val (.int (1 : Int32)), .val (.ref a21), .val (.ref b26), .unset, .unset] [(.ref b26)])) (fun t kt => XS.aload X26.here hx rfl (hb hby at_154) rfl rfl kt) ?_
      refine Go.st (S' := T26.setTop (mkF m 158 #[.val (.int p0), .val (.int p1), .val (.int p2), .val (.int p3), .val (.int ((p0 &&& (255 : Int32))).toUInt32.toUInt16.toUInt32.toInt32), .val (.int (((XT.ushr p0 (8 : Int32)) &&& (255 : Int32))).toUInt32.toUInt16.toUInt32.toInt32), .val (.int (p3 &&& (3 : Int32))), .val .null, .val (.int (1 : Int32)), .val (.ref a21), .val (.ref b26), .unset, .unset] [(.ref a21), (.ref b26)])) (fun t kt => XS.aload X26.here hx rfl (hb hby at_156) rfl rfl kt) ?_
      refine Go.st (S' := T26.setTop (mkF m 163 #[.val (.int p0), .val (.int p1), .val (.int p2), .val (.int p3), .val (.int ((p0 &&& (255 : Int32))).toUInt32.toUInt16.toUInt32.toInt32), .val (.int (((XT.ushr p0 (8 : Int32)) &&& (255 : Int32))).toUInt32.toUInt16.toUInt32.toInt32), .val (.int (p3 &&& (3 : Int32))), .val .null, .val (.int (1 : Int32)), .val (.ref a21), .val (.ref b26), .unset, .unset] [])) (fun t kt => XT.acmpYes X26.here hx rfl (pc0 := 158) (pc' := 163) rfl (hb hby at_158) rfl rfl rfl (XT.aa_ne_t (fun q => (Ne.symm (Nat.ne_of_lt (Nat.lt_of_lt_of_le f24_0.lt y26_0))) (Value.ref.inj q))) (by decide) (by decide) kt) ?_
      refine Go.st (S' := T26.setTop (mkF m 165 #[.val (.int p0), .val (.int p1), .val (.int p2), .val (.int p3), .val (.int ((p0 &&& (255 : Int32))).toUInt32.toUInt16.toUInt32.toInt32), .val (.int (((XT.ushr p0 (8 : Int32)) &&& (255 : Int32))).toUInt32.toUInt16.toUInt32.toInt32), .val (.int (p3 &&& (3 : Int32))), .val .null, .val (.int (1 : Int32)), .val (.ref a21), .val (.ref b26), .unset, .unset] [(.ref b26)])) (fun t kt => XS.aload X26.here hx rfl (hb hby at_163) rfl rfl kt) ?_
      refine Go.virt X26 hx hZ hown (hw _ (List.mem_of_getElem? (i := 50) rfl)) (hw _ (List.mem_of_getElem? (i := 51) rfl)) (notFace_of_selects (mvT (args := #[]) hZ (hw _ (List.mem_of_getElem? (i := 53) rfl)))) (hw _ (List.mem_of_getElem? (i := 53) rfl)) (hw _ (List.mem_of_getElem? (i := 52) rfl)) (hw _ (List.mem_of_getElem? (i := 54) rfl)) (hw _ (List.mem_of_getElem? (i := 32) rfl)) (by decide) (b := b26) (argsL := []) (rest := []) (rm6 l Z a0 hw b26 .null rfl T26.heap n0 Z26 f26_1) eh26 f26_0 rfl (by rw [hml]; rfl) pd___Ljava_lang_String_ rfl (hb hby at_165) 0 (Nat.le_refl _) (by decide) (by decide) (by decide) (by decide) ?_
      intro v27 T27 L27 X27 hQ27
      obtain ⟨hv27, N27', e27⟩ := hQ27
      subst hv27
      have N27 := Fr.app N26 N27'
      show Go pP eE below _ (T27.setTop (mkF m 168 #[.val (.int p0), .val (.int p1), .val (.int p2), .val (.int p3), .val (.int ((p0 &&& (255 : Int32))).toUInt32.toUInt16.toUInt32.toInt32), .val (.int (((XT.ushr p0 (8 : Int32)) &&& (255 : Int32))).toUInt32.toUInt16.toUInt32.toInt32), .val (.int (p3 &&& (3 : Int32))), .val .null, .val (.int (1 : Int32)), .val (.ref a21), .val (.ref b26), .unset, .unset] [.null]))
      refine Go.st (S' := T27.setTop (mkF m 170 #[.val (.int p0), .val (.int p1), .val (.int p2), .val (.int p3), .val (.int ((p0 &&& (255 : Int32))).toUInt32.toUInt16.toUInt32.toInt32), .val (.int (((XT.ushr p0 (8 : Int32)) &&& (255 : Int32))).toUInt32.toUInt16.toUInt32.toInt32), .val (.int (p3 &&& (3 : Int32))), .val .null, .val (.int (1 : Int32)), .val (.ref a21), .val (.ref b26), .unset, .unset] [.null, .null])) (fun t kt => XS.aload X27.here hx rfl (hb hby at_168) rfl rfl kt) ?_
      refine Go.st (S' := T27.setTop (mkF m 173 #[.val (.int p0), .val (.int p1), .val (.int p2), .val (.int p3), .val (.int ((p0 &&& (255 : Int32))).toUInt32.toUInt16.toUInt32.toInt32), .val (.int (((XT.ushr p0 (8 : Int32)) &&& (255 : Int32))).toUInt32.toUInt16.toUInt32.toInt32), .val (.int (p3 &&& (3 : Int32))), .val .null, .val (.int (1 : Int32)), .val (.ref a21), .val (.ref b26), .unset, .unset] [])) (fun t kt => XT.acmpNo X27.here hx rfl (hb hby at_170) rfl rfl rfl (XT.aa_ne_f rfl) kt) ?_
      refine Go.st (S' := T27.setTop (mkF m 175 #[.val (.int p0), .val (.int p1), .val (.int p2), .val (.int p3), .val (.int ((p0 &&& (255 : Int32))).toUInt32.toUInt16.toUInt32.toInt32), .val (.int (((XT.ushr p0 (8 : Int32)) &&& (255 : Int32))).toUInt32.toUInt16.toUInt32.toInt32), .val (.int (p3 &&& (3 : Int32))), .val .null, .val (.int (1 : Int32)), .val (.ref a21), .val (.ref b26), .unset, .unset] [(.ref b26)])) (fun t kt => XS.aload X27.here hx rfl (hb hby at_173) rfl rfl kt) ?_
      refine Go.virt X27 hx hZ hown (hw _ (List.mem_of_getElem? (i := 55) rfl)) (hw _ (List.mem_of_getElem? (i := 56) rfl)) (notFace_of_selects (mvT (args := #[]) hZ (hw _ (List.mem_of_getElem? (i := 58) rfl)))) (hw _ (List.mem_of_getElem? (i := 58) rfl)) (hw _ (List.mem_of_getElem? (i := 57) rfl)) (hw _ (List.mem_of_getElem? (i := 59) rfl)) (hw _ (List.mem_of_getElem? (i := 32) rfl)) (by decide) (b := b26) (argsL := []) (rest := []) (rm7 l Z a0 hw b26 p1 T26.heap n0 Z26 f26_2) e27 f26_0 rfl (by rw [hml]; rfl) pd___I rfl (hb hby at_175) 0 (Nat.le_refl _) (by decide) (by decide) (by decide) (by decide) ?_
      intro v28 T28 L28 X28 hQ28
      obtain ⟨hv28, N28', e28⟩ := hQ28
      subst hv28
      have N28 := Fr.app N27 N28'
      show Go pP eE below _ (T28.setTop (mkF m 178 #[.val (.int p0), .val (.int p1), .val (.int p2), .val (.int p3), .val (.int ((p0 &&& (255 : Int32))).toUInt32.toUInt16.toUInt32.toInt32), .val (.int (((XT.ushr p0 (8 : Int32)) &&& (255 : Int32))).toUInt32.toUInt16.toUInt32.toInt32), .val (.int (p3 &&& (3 : Int32))), .val .null, .val (.int (1 : Int32)), .val (.ref a21), .val (.ref b26), .unset, .unset] [(.int p1)]))
      refine Go.st (S' := T28.setTop (mkF m 179 #[.val (.int p0), .val (.int p1), .val (.int p2), .val (.int p3), .val (.int ((p0 &&& (255 : Int32))).toUInt32.toUInt16.toUInt32.toInt32), .val (.int (((XT.ushr p0 (8 : Int32)) &&& (255 : Int32))).toUInt32.toUInt16.toUInt32.toInt32), .val (.int (p3 &&& (3 : Int32))), .val .null, .val (.int (1 : Int32)), .val (.ref a21), .val (.ref b26), .unset, .unset] [(.int p1), (.int p1)])) (fun t kt => XS.iloadN X28.here hx rfl (hb hby at_178) rfl kt) ?_
      refine Go.st (S' := T28.setTop (mkF m 182 #[.val (.int p0), .val (.int p1), .val (.int p2), .val (.int p3), .val (.int ((p0 &&& (255 : Int32))).toUInt32.toUInt16.toUInt32.toInt32), .val (.int (((XT.ushr p0 (8 : Int32)) &&& (255 : Int32))).toUInt32.toUInt16.toUInt32.toInt32), .val (.int (p3 &&& (3 : Int32))), .val .null, .val (.int (1 : Int32)), .val (.ref a21), .val (.ref b26), .unset, .unset] [])) (fun t kt => XS.icmpNo X28.here hx rfl (hb hby at_179) rfl (XT.ii_ne_f rfl) kt) ?_
      refine Go.st (S' := T28.setTop (mkF m 184 #[.val (.int p0), .val (.int p1), .val (.int p2), .val (.int p3), .val (.int ((p0 &&& (255 : Int32))).toUInt32.toUInt16.toUInt32.toInt32), .val (.int (((XT.ushr p0 (8 : Int32)) &&& (255 : Int32))).toUInt32.toUInt16.toUInt32.toInt32), .val (.int (p3 &&& (3 : Int32))), .val .null, .val (.int (1 : Int32)), .val (.ref a21), .val (.ref b26), .unset, .unset] [(.ref b26)])) (fun t kt => XS.aload X28.here hx rfl (hb hby at_182) rfl rfl kt) ?_
      refine Go.virt X28 hx hZ hown (hw _ (List.mem_of_getElem? (i := 60) rfl)) (hw _ (List.mem_of_getElem? (i := 61) rfl)) (notFace_of_selects (mvT (args := #[]) hZ (hw _ (List.mem_of_getElem? (i := 63) rfl)))) (hw _ (List.mem_of_getElem? (i := 63) rfl)) (hw _ (List.mem_of_getElem? (i := 62) rfl)) (hw _ (List.mem_of_getElem? (i := 64) rfl)) (hw _ (List.mem_of_getElem? (i := 32) rfl)) (by decide) (b := b26) (argsL := []) (rest := []) (rm8 l Z a0 hw b26 p2 T26.heap n0 Z26 f26_3) e28 f26_0 rfl (by rw [hml]; rfl) pd___I rfl (hb hby at_184) 0 (Nat.le_refl _) (by decide) (by decide) (by decide) (by decide) ?_
      intro v29 T29 L29 X29 hQ29
      obtain ⟨hv29, N29', e29⟩ := hQ29
      subst hv29
      have N29 := Fr.app N28 N29'
      show Go pP eE below _ (T29.setTop (mkF m 187 #[.val (.int p0), .val (.int p1), .val (.int p2), .val (.int p3), .val (.int ((p0 &&& (255 : Int32))).toUInt32.toUInt16.toUInt32.toInt32), .val (.int (((XT.ushr p0 (8 : Int32)) &&& (255 : Int32))).toUInt32.toUInt16.toUInt32.toInt32), .val (.int (p3 &&& (3 : Int32))), .val .null, .val (.int (1 : Int32)), .val (.ref a21), .val (.ref b26), .unset, .unset] [(.int p2)]))
      refine Go.st (S' := T29.setTop (mkF m 188 #[.val (.int p0), .val (.int p1), .val (.int p2), .val (.int p3), .val (.int ((p0 &&& (255 : Int32))).toUInt32.toUInt16.toUInt32.toInt32), .val (.int (((XT.ushr p0 (8 : Int32)) &&& (255 : Int32))).toUInt32.toUInt16.toUInt32.toInt32), .val (.int (p3 &&& (3 : Int32))), .val .null, .val (.int (1 : Int32)), .val (.ref a21), .val (.ref b26), .unset, .unset] [(.int p2), (.int p2)])) (fun t kt => XS.iloadN X29.here hx rfl (hb hby at_187) rfl kt) ?_
      refine Go.st (S' := T29.setTop (mkF m 191 #[.val (.int p0), .val (.int p1), .val (.int p2), .val (.int p3), .val (.int ((p0 &&& (255 : Int32))).toUInt32.toUInt16.toUInt32.toInt32), .val (.int (((XT.ushr p0 (8 : Int32)) &&& (255 : Int32))).toUInt32.toUInt16.toUInt32.toInt32), .val (.int (p3 &&& (3 : Int32))), .val .null, .val (.int (1 : Int32)), .val (.ref a21), .val (.ref b26), .unset, .unset] [])) (fun t kt => XS.icmpNo X29.here hx rfl (hb hby at_188) rfl (XT.ii_ne_f rfl) kt) ?_
      refine Go.st (S' := T29.setTop (mkF m 193 #[.val (.int p0), .val (.int p1), .val (.int p2), .val (.int p3), .val (.int ((p0 &&& (255 : Int32))).toUInt32.toUInt16.toUInt32.toInt32), .val (.int (((XT.ushr p0 (8 : Int32)) &&& (255 : Int32))).toUInt32.toUInt16.toUInt32.toInt32), .val (.int (p3 &&& (3 : Int32))), .val .null, .val (.int (1 : Int32)), .val (.ref a21), .val (.ref b26), .unset, .unset] [(.ref b26)])) (fun t kt => XS.aload X29.here hx rfl (hb hby at_191) rfl rfl kt) ?_
      refine Go.virt X29 hx hZ hown (hw _ (List.mem_of_getElem? (i := 65) rfl)) (hw _ (List.mem_of_getElem? (i := 66) rfl)) (notFace_of_selects (mvT (args := #[]) hZ (hw _ (List.mem_of_getElem? (i := 68) rfl)))) (hw _ (List.mem_of_getElem? (i := 68) rfl)) (hw _ (List.mem_of_getElem? (i := 67) rfl)) (hw _ (List.mem_of_getElem? (i := 69) rfl)) (hw _ (List.mem_of_getElem? (i := 32) rfl)) (by decide) (b := b26) (argsL := []) (rest := []) (rm9 l Z a0 hw b26 .null rfl T26.heap n0 Z26 f26_4) e29 f26_0 rfl (by rw [hml]; rfl) pd___Lcom_example_seatwright_seatwright_engine_Bucket_ rfl (hb hby at_193) 0 (Nat.le_refl _) (by decide) (by decide) (by decide) (by decide) ?_
      intro v30 T30 L30 X30 hQ30
      obtain ⟨hv30, N30', e30⟩ := hQ30
      subst hv30
      have N30 := Fr.app N29 N30'
      show Go pP eE below _ (T30.setTop (mkF m 196 #[.val (.int p0), .val (.int p1), .val (.int p2), .val (.int p3), .val (.int ((p0 &&& (255 : Int32))).toUInt32.toUInt16.toUInt32.toInt32), .val (.int (((XT.ushr p0 (8 : Int32)) &&& (255 : Int32))).toUInt32.toUInt16.toUInt32.toInt32), .val (.int (p3 &&& (3 : Int32))), .val .null, .val (.int (1 : Int32)), .val (.ref a21), .val (.ref b26), .unset, .unset] [.null]))
      refine Go.st (S' := T30.setTop (mkF m 199 #[.val (.int p0), .val (.int p1), .val (.int p2), .val (.int p3), .val (.int ((p0 &&& (255 : Int32))).toUInt32.toUInt16.toUInt32.toInt32), .val (.int (((XT.ushr p0 (8 : Int32)) &&& (255 : Int32))).toUInt32.toUInt16.toUInt32.toInt32), .val (.int (p3 &&& (3 : Int32))), .val .null, .val (.int (1 : Int32)), .val (.ref a21), .val (.ref b26), .unset, .unset] [])) (fun t kt => XT.ifnonnullNo X30.here hx rfl (hb hby at_196) rfl kt) ?_
      refine Go.st (S' := T30.setTop (mkF m 200 #[.val (.int p0), .val (.int p1), .val (.int p2), .val (.int p3), .val (.int ((p0 &&& (255 : Int32))).toUInt32.toUInt16.toUInt32.toInt32), .val (.int (((XT.ushr p0 (8 : Int32)) &&& (255 : Int32))).toUInt32.toUInt16.toUInt32.toInt32), .val (.int (p3 &&& (3 : Int32))), .val .null, .val (.int (1 : Int32)), .val (.ref a21), .val (.ref b26), .unset, .unset] [(.int (1 : Int32))])) (fun t kt => XS.iconst X30.here hx rfl (hb hby at_199) kt) ?_
      refine Go.st (S' := T30.setTop (mkF m 204 #[.val (.int p0), .val (.int p1), .val (.int p2), .val (.int p3), .val (.int ((p0 &&& (255 : Int32))).toUInt32.toUInt16.toUInt32.toInt32), .val (.int (((XT.ushr p0 (8 : Int32)) &&& (255 : Int32))).toUInt32.toUInt16.toUInt32.toInt32), .val (.int (p3 &&& (3 : Int32))), .val .null, .val (.int (1 : Int32)), .val (.ref a21), .val (.ref b26), .unset, .unset] [(.int (1 : Int32))])) (fun t kt => XS.goto X30.here hx rfl (pc0 := 200) (pc' := 204) rfl (hb hby at_200) (by decide) (by decide) kt) ?_
      refine Go.st (S' := T30.setTop (mkF m 206 #[.val (.int p0), .val (.int p1), .val (.int p2), .val (.int p3), .val (.int ((p0 &&& (255 : Int32))).toUInt32.toUInt16.toUInt32.toInt32), .val (.int (((XT.ushr p0 (8 : Int32)) &&& (255 : Int32))).toUInt32.toUInt16.toUInt32.toInt32), .val (.int (p3 &&& (3 : Int32))), .val .null, .val (.int (1 : Int32)), .val (.ref a21), .val (.ref b26), .val (.int (1 : Int32)), .unset] [])) (fun t kt => XS.istore X30.here hx rfl (hb hby at_204) rfl rfl kt) ?_
      refine Go.st (S' := T30.setTop (mkF m 208 #[.val (.int p0), .val (.int p1), .val (.int p2), .val (.int p3), .val (.int ((p0 &&& (255 : Int32))).toUInt32.toUInt16.toUInt32.toInt32), .val (.int (((XT.ushr p0 (8 : Int32)) &&& (255 : Int32))).toUInt32.toUInt16.toUInt32.toInt32), .val (.int (p3 &&& (3 : Int32))), .val .null, .val (.int (1 : Int32)), .val (.ref a21), .val (.ref b26), .val (.int (1 : Int32)), .unset] [(.ref a21)])) (fun t kt => XS.aload X30.here hx rfl (hb hby at_206) rfl rfl kt) ?_
      have f31 := (f24_0.keep K26')
      have f32 := (f24_1.keep K26' nin0)
      have f33 := (f24_2.keep K26' nin0)
      have f34 := (f24_3.keep K26' nin0)
      have f35 := (f24_4.keep K26' nin0)
      refine Go.virt X30 hx hZ hown (hw _ (List.mem_of_getElem? (i := 72) rfl)) (hw _ (List.mem_of_getElem? (i := 73) rfl)) (notFace_of_selects (mvT (args := #[]) hZ (hw _ (List.mem_of_getElem? (i := 75) rfl)))) (hw _ (List.mem_of_getElem? (i := 75) rfl)) (hw _ (List.mem_of_getElem? (i := 74) rfl)) (hw _ (List.mem_of_getElem? (i := 76) rfl)) (hw _ (List.mem_of_getElem? (i := 32) rfl)) (by decide) (b := a21) (argsL := []) (rest := []) (rm4 l Z a0 hw a21 .null rfl p1 p2 (.ref a21) rfl T26.heap n0 Z26 f31 (Nat.le_trans Z0 (Nat.le_of_eq g21.symm)) f32 f33 f34 f35) e30 f31 rfl (by rw [hml]; rfl) pd___V rfl (hb hby at_208) 0 (Nat.le_refl _) (by decide) (by decide) (by decide) (by decide) ?_
      intro v36 T36 L36 X36 hQ36
      have f37 := (Safe.keep K26' all0 C24.1 (Safe.keep K24' (allS f25 all0) C22.1 f25))
      obtain ⟨hv36, N36', K36', f36_0, f36_1, f36_2, f36_3, f36_4⟩ := hQ36
      subst hv36
      have N36 := Fr.app N30 N36'
      have Z36 : n0 ≤ T36.heap.size := Nat.le_trans Z26 K36'.1
      have eh36 : T36.heap = T36.heap := rfl
      have C36 := CHr.trans C26 (CHr.keep K36' (allS f37 all0) C26.1)
      have hk := Nat.le_trans hk K36'.1
      show Go pP eE below _ (T36.setTop (mkF m 211 #[.val (.int p0), .val (.int p1), .val (.int p2), .val (.int p3), .val (.int ((p0 &&& (255 : Int32))).toUInt32.toUInt16.toUInt32.toInt32), .val (.int (((XT.ushr p0 (8 : Int32)) &&& (255 : Int32))).toUInt32.toUInt16.toUInt32.toInt32), .val (.int (p3 &&& (3 : Int32))), .val .null, .val (.int (1 : Int32)), .val (.ref a21), .val (.ref b26), .val (.int (1 : Int32)), .unset] []))
      refine Go.st (S' := T36.setTop (mkF m 213 #[.val (.int p0), .val (.int p1), .val (.int p2), .val (.int p3), .val (.int ((p0 &&& (255 : Int32))).toUInt32.toUInt16.toUInt32.toInt32), .val (.int (((XT.ushr p0 (8 : Int32)) &&& (255 : Int32))).toUInt32.toUInt16.toUInt32.toInt32), .val (.int (p3 &&& (3 : Int32))), .val .null, .val (.int (1 : Int32)), .val (.ref a21), .val (.ref b26), .val (.int (1 : Int32)), .unset] [(.ref b26)])) (fun t kt => XS.aload X36.here hx rfl (hb hby at_211) rfl rfl kt) ?_
      have f38 := (f26_3.keep K36' (ninS (Ne.symm (Nat.ne_of_lt (Nat.lt_of_lt_of_le f24_0.lt y26_0))) nin0))
      have f40 := (f26_0.keep K36')
      refine Go.virt X36 hx hZ hown (hw _ (List.mem_of_getElem? (i := 60) rfl)) (hw _ (List.mem_of_getElem? (i := 61) rfl)) (notFace_of_selects (mvT (args := #[]) hZ (hw _ (List.mem_of_getElem? (i := 63) rfl)))) (hw _ (List.mem_of_getElem? (i := 63) rfl)) (hw _ (List.mem_of_getElem? (i := 62) rfl)) (hw _ (List.mem_of_getElem? (i := 64) rfl)) (hw _ (List.mem_of_getElem? (i := 32) rfl)) (by decide) (b := b26) (argsL := []) (rest := []) (rm8 l Z a0 hw b26 p2 T36.heap n0 Z36 f38) eh36 f40 rfl (by rw [hml]; rfl) pd___I rfl (hb hby at_213) 0 (Nat.le_refl _) (by decide) (by decide) (by decide) (by decide) ?_
      intro v39 T39 L39 X39 hQ39
      obtain ⟨hv39, N39', e39⟩ := hQ39
      subst hv39
      have N39 := Fr.app N36 N39'
      show Go pP eE below _ (T39.setTop (mkF m 216 #[.val (.int p0), .val (.int p1), .val (.int p2), .val (.int p3), .val (.int ((p0 &&& (255 : Int32))).toUInt32.toUInt16.toUInt32.toInt32), .val (.int (((XT.ushr p0 (8 : Int32)) &&& (255 : Int32))).toUInt32.toUInt16.toUInt32.toInt32), .val (.int (p3 &&& (3 : Int32))), .val .null, .val (.int (1 : Int32)), .val (.ref a21), .val (.ref b26), .val (.int (1 : Int32)), .unset] [(.int p2)]))
      refine Go.st (S' := T39.setTop (mkF m 217 #[.val (.int p0), .val (.int p1), .val (.int p2), .val (.int p3), .val (.int ((p0 &&& (255 : Int32))).toUInt32.toUInt16.toUInt32.toInt32), .val (.int (((XT.ushr p0 (8 : Int32)) &&& (255 : Int32))).toUInt32.toUInt16.toUInt32.toInt32), .val (.int (p3 &&& (3 : Int32))), .val .null, .val (.int (1 : Int32)), .val (.ref a21), .val (.ref b26), .val (.int (1 : Int32)), .unset] [(.int p2), (.int p2)])) (fun t kt => XS.iloadN X39.here hx rfl (hb hby at_216) rfl kt) ?_
      refine Go.st (S' := T39.setTop (mkF m 220 #[.val (.int p0), .val (.int p1), .val (.int p2), .val (.int p3), .val (.int ((p0 &&& (255 : Int32))).toUInt32.toUInt16.toUInt32.toInt32), .val (.int (((XT.ushr p0 (8 : Int32)) &&& (255 : Int32))).toUInt32.toUInt16.toUInt32.toInt32), .val (.int (p3 &&& (3 : Int32))), .val .null, .val (.int (1 : Int32)), .val (.ref a21), .val (.ref b26), .val (.int (1 : Int32)), .unset] [])) (fun t kt => XS.icmpNo X39.here hx rfl (hb hby at_217) rfl (XT.ii_ne_f rfl) kt) ?_
      refine Go.st (S' := T39.setTop (mkF m 221 #[.val (.int p0), .val (.int p1), .val (.int p2), .val (.int p3), .val (.int ((p0 &&& (255 : Int32))).toUInt32.toUInt16.toUInt32.toInt32), .val (.int (((XT.ushr p0 (8 : Int32)) &&& (255 : Int32))).toUInt32.toUInt16.toUInt32.toInt32), .val (.int (p3 &&& (3 : Int32))), .val .null, .val (.int (1 : Int32)), .val (.ref a21), .val (.ref b26), .val (.int (1 : Int32)), .unset] [(.int (1 : Int32))])) (fun t kt => XS.iconst X39.here hx rfl (hb hby at_220) kt) ?_
      refine Go.st (S' := T39.setTop (mkF m 225 #[.val (.int p0), .val (.int p1), .val (.int p2), .val (.int p3), .val (.int ((p0 &&& (255 : Int32))).toUInt32.toUInt16.toUInt32.toInt32), .val (.int (((XT.ushr p0 (8 : Int32)) &&& (255 : Int32))).toUInt32.toUInt16.toUInt32.toInt32), .val (.int (p3 &&& (3 : Int32))), .val .null, .val (.int (1 : Int32)), .val (.ref a21), .val (.ref b26), .val (.int (1 : Int32)), .unset] [(.int (1 : Int32))])) (fun t kt => XS.goto X39.here hx rfl (pc0 := 221) (pc' := 225) rfl (hb hby at_221) (by decide) (by decide) kt) ?_
      refine Go.st (S' := T39.setTop (mkF m 227 #[.val (.int p0), .val (.int p1), .val (.int p2), .val (.int p3), .val (.int ((p0 &&& (255 : Int32))).toUInt32.toUInt16.toUInt32.toInt32), .val (.int (((XT.ushr p0 (8 : Int32)) &&& (255 : Int32))).toUInt32.toUInt16.toUInt32.toInt32), .val (.int (p3 &&& (3 : Int32))), .val .null, .val (.int (1 : Int32)), .val (.ref a21), .val (.ref b26), .val (.int (1 : Int32)), .val (.int (1 : Int32))] [])) (fun t kt => XS.istore X39.here hx rfl (hb hby at_225) rfl rfl kt) ?_
      refine Go.st (S' := T39.setTop (mkF m 229 #[.val (.int p0), .val (.int p1), .val (.int p2), .val (.int p3), .val (.int ((p0 &&& (255 : Int32))).toUInt32.toUInt16.toUInt32.toInt32), .val (.int (((XT.ushr p0 (8 : Int32)) &&& (255 : Int32))).toUInt32.toUInt16.toUInt32.toInt32), .val (.int (p3 &&& (3 : Int32))), .val .null, .val (.int (1 : Int32)), .val (.ref a21), .val (.ref b26), .val (.int (1 : Int32)), .val (.int (1 : Int32))] [(.int (1 : Int32))])) (fun t kt => XS.iload X39.here hx rfl (hb hby at_227) rfl kt) ?_
      refine Go.st (S' := T39.setTop (mkF m 232 #[.val (.int p0), .val (.int p1), .val (.int p2), .val (.int p3), .val (.int ((p0 &&& (255 : Int32))).toUInt32.toUInt16.toUInt32.toInt32), .val (.int (((XT.ushr p0 (8 : Int32)) &&& (255 : Int32))).toUInt32.toUInt16.toUInt32.toInt32), .val (.int (p3 &&& (3 : Int32))), .val .null, .val (.int (1 : Int32)), .val (.ref a21), .val (.ref b26), .val (.int (1 : Int32)), .val (.int (1 : Int32))] [])) (fun t kt => XS.ifNo X39.here hx rfl (hb hby at_229) rfl (XT.i0_eq_f (by decide)) kt) ?_
      refine Go.st (S' := T39.setTop (mkF m 234 #[.val (.int p0), .val (.int p1), .val (.int p2), .val (.int p3), .val (.int ((p0 &&& (255 : Int32))).toUInt32.toUInt16.toUInt32.toInt32), .val (.int (((XT.ushr p0 (8 : Int32)) &&& (255 : Int32))).toUInt32.toUInt16.toUInt32.toInt32), .val (.int (p3 &&& (3 : Int32))), .val .null, .val (.int (1 : Int32)), .val (.ref a21), .val (.ref b26), .val (.int (1 : Int32)), .val (.int (1 : Int32))] [(.int (1 : Int32))])) (fun t kt => XS.iload X39.here hx rfl (hb hby at_232) rfl kt) ?_
      refine Go.st (S' := T39.setTop (mkF m 237 #[.val (.int p0), .val (.int p1), .val (.int p2), .val (.int p3), .val (.int ((p0 &&& (255 : Int32))).toUInt32.toUInt16.toUInt32.toInt32), .val (.int (((XT.ushr p0 (8 : Int32)) &&& (255 : Int32))).toUInt32.toUInt16.toUInt32.toInt32), .val (.int (p3 &&& (3 : Int32))), .val .null, .val (.int (1 : Int32)), .val (.ref a21), .val (.ref b26), .val (.int (1 : Int32)), .val (.int (1 : Int32))] [])) (fun t kt => XS.ifNo X39.here hx rfl (hb hby at_234) rfl (XT.i0_eq_f (by decide)) kt) ?_
      refine Go.st (S' := T39.setTop (mkF m 238 #[.val (.int p0), .val (.int p1), .val (.int p2), .val (.int p3), .val (.int ((p0 &&& (255 : Int32))).toUInt32.toUInt16.toUInt32.toInt32), .val (.int (((XT.ushr p0 (8 : Int32)) &&& (255 : Int32))).toUInt32.toUInt16.toUInt32.toInt32), .val (.int (p3 &&& (3 : Int32))), .val .null, .val (.int (1 : Int32)), .val (.ref a21), .val (.ref b26), .val (.int (1 : Int32)), .val (.int (1 : Int32))] [(.int (1 : Int32))])) (fun t kt => XS.iconst X39.here hx rfl (hb hby at_237) kt) ?_
      refine Go.st (S' := T39.setTop (mkF m 242 #[.val (.int p0), .val (.int p1), .val (.int p2), .val (.int p3), .val (.int ((p0 &&& (255 : Int32))).toUInt32.toUInt16.toUInt32.toInt32), .val (.int (((XT.ushr p0 (8 : Int32)) &&& (255 : Int32))).toUInt32.toUInt16.toUInt32.toInt32), .val (.int (p3 &&& (3 : Int32))), .val .null, .val (.int (1 : Int32)), .val (.ref a21), .val (.ref b26), .val (.int (1 : Int32)), .val (.int (1 : Int32))] [(.int (1 : Int32))])) (fun t kt => XS.goto X39.here hx rfl (pc0 := 238) (pc' := 242) rfl (hb hby at_238) (by decide) (by decide) kt) ?_
      exact retw_b X39 hZ hEL e39 C36 hS hk hx hlk hret (hb hby at_242) (by decide) (by decide) (⟨rfl, N39⟩)
  · refine Go.st (S' := T.setTop (mkF m 35 #[.val (.int p0), .val (.int p1), .val (.int p2), .val (.int p3), .val (.int ((p0 &&& (255 : Int32))).toUInt32.toUInt16.toUInt32.toInt32), .val (.int (((XT.ushr p0 (8 : Int32)) &&& (255 : Int32))).toUInt32.toUInt16.toUInt32.toInt32), .val (.int (p3 &&& (3 : Int32))), .unset, .unset, .unset, .unset, .unset, .unset] [])) (fun t kt => XS.ifYes X.here hx rfl (pc0 := 26) (pc' := 35) rfl (hb hby at_26) rfl (XT.i0_ne_t hc26_1) (by decide) (by decide) kt) ?_
    refine Go.st (S' := T.setTop (mkF m 37 #[.val (.int p0), .val (.int p1), .val (.int p2), .val (.int p3), .val (.int ((p0 &&& (255 : Int32))).toUInt32.toUInt16.toUInt32.toInt32), .val (.int (((XT.ushr p0 (8 : Int32)) &&& (255 : Int32))).toUInt32.toUInt16.toUInt32.toInt32), .val (.int (p3 &&& (3 : Int32))), .unset, .unset, .unset, .unset, .unset, .unset] [(.int (p3 &&& (3 : Int32)))])) (fun t kt => XS.iload X.here hx rfl (hb hby at_35) rfl kt) ?_
    refine Go.st (S' := T.setTop (mkF m 38 #[.val (.int p0), .val (.int p1), .val (.int p2), .val (.int p3), .val (.int ((p0 &&& (255 : Int32))).toUInt32.toUInt16.toUInt32.toInt32), .val (.int (((XT.ushr p0 (8 : Int32)) &&& (255 : Int32))).toUInt32.toUInt16.toUInt32.toInt32), .val (.int (p3 &&& (3 : Int32))), .unset, .unset, .unset, .unset, .unset, .unset] [(.int (1 : Int32)), (.int (p3 &&& (3 : Int32)))])) (fun t kt => XS.iconst X.here hx rfl (hb hby at_37) kt) ?_
    by_cases hc38_41 : (p3 &&& (3 : Int32)) = (1 : Int32)
    · refine Go.st (S' := T.setTop (mkF m 41 #[.val (.int p0), .val (.int p1), .val (.int p2), .val (.int p3), .val (.int ((p0 &&& (255 : Int32))).toUInt32.toUInt16.toUInt32.toInt32), .val (.int (((XT.ushr p0 (8 : Int32)) &&& (255 : Int32))).toUInt32.toUInt16.toUInt32.toInt32), .val (.int (p3 &&& (3 : Int32))), .unset, .unset, .unset, .unset, .unset, .unset] [])) (fun t kt => XS.icmpNo X.here hx rfl (hb hby at_38) rfl (XT.ii_ne_f hc38_41) kt) ?_
      obtain ⟨T42, h42, X42, e42, E42, A42, D42, -, st42⟩ := newO X hx hZ hown (hw _ (List.mem_of_getElem? (i := 0) rfl)) (hw _ (List.mem_of_getElem? (i := 1) rfl)) (hw _ (List.mem_of_getElem? (i := 2) rfl)) eT (g := (mkF m 41 #[.val (.int p0), .val (.int p1), .val (.int p2), .val (.int p3), .val (.int ((p0 &&& (255 : Int32))).toUInt32.toUInt16.toUInt32.toInt32), .val (.int (((XT.ushr p0 (8 : Int32)) &&& (255 : Int32))).toUInt32.toUInt16.toUInt32.toInt32), .val (.int (p3 &&& (3 : Int32))), .unset, .unset, .unset, .unset, .unset, .unset] [])) rfl (hb hby at_41) (by decide) (by decide)
      obtain ⟨a42, g42⟩ : ∃ z, z = h0.size := ⟨_, rfl⟩
      rw [← g42] at A42 D42 st42
      have Z42 : n0 ≤ h42.size := Nat.le_trans Z0 E42.1
      have S42 : Safe Z own_EL sS.vm h0 a42 := Safe.new (Nat.le_of_eq g42.symm)
      have C42 := CHr.trans C0 (CHr.ext E42 C0.1)
      have hk := Nat.le_trans hk E42.1
      have F42_coder : Fld Z h42 a42 "java/lang/String" "coder" "B" (.int (0 : Int32)) := D42 (Or.inr (hw _ (List.mem_of_getElem? (i := 27) rfl))) (ty := .byte) (by decide)
      have F42_value : Fld Z h42 a42 "java/lang/String" "value" "[B" .null := D42 (Or.inr (hw _ (List.mem_of_getElem? (i := 29) rfl))) (ty := (.array .byte)) (by decide)
      refine Go.st (S' := T42.setTop (mkF m 44 #[.val (.int p0), .val (.int p1), .val (.int p2), .val (.int p3), .val (.int ((p0 &&& (255 : Int32))).toUInt32.toUInt16.toUInt32.toInt32), .val (.int (((XT.ushr p0 (8 : Int32)) &&& (255 : Int32))).toUInt32.toUInt16.toUInt32.toInt32), .val (.int (p3 &&& (3 : Int32))), .unset, .unset, .unset, .unset, .unset, .unset] [(.ref a42)])) (fun t kt => st42 t kt) ?_
      refine Go.st (S' := T42.setTop (mkF m 45 #[.val (.int p0), .val (.int p1), .val (.int p2), .val (.int p3), .val (.int ((p0 &&& (255 : Int32))).toUInt32.toUInt16.toUInt32.toInt32), .val (.int (((XT.ushr p0 (8 : Int32)) &&& (255 : Int32))).toUInt32.toUInt16.toUInt32.toInt32), .val (.int (p3 &&& (3 : Int32))), .unset, .unset, .unset, .unset, .unset, .unset] [(.ref a42), (.ref a42)])) (fun t kt => XS.dup X42.here hx rfl (hb hby at_44) rfl rfl kt) ?_
      refine Go.st (S' := T42.setTop (mkF m 46 #[.val (.int p0), .val (.int p1), .val (.int p2), .val (.int p3), .val (.int ((p0 &&& (255 : Int32))).toUInt32.toUInt16.toUInt32.toInt32), .val (.int (((XT.ushr p0 (8 : Int32)) &&& (255 : Int32))).toUInt32.toUInt16.toUInt32.toInt32), .val (.int (p3 &&& (3 : Int32))), .unset, .unset, .unset, .unset, .unset, .unset] [(.int (1 : Int32)), (.ref a42), (.ref a42)])) (fun t kt => XS.iconst X42.here hx rfl (hb hby at_45) kt) ?_
      obtain ⟨T43, h43, k43, X43, e43, E43, A43, st43⟩ := newP X42 hx hZ (hw _ (List.mem_of_getElem? (i := 3) rfl)) e42 (g := (mkF m 46 #[.val (.int p0), .val (.int p1), .val (.int p2), .val (.int p3), .val (.int ((p0 &&& (255 : Int32))).toUInt32.toUInt16.toUInt32.toInt32), .val (.int (((XT.ushr p0 (8 : Int32)) &&& (255 : Int32))).toUInt32.toUInt16.toUInt32.toInt32), .val (.int (p3 &&& (3 : Int32))), .unset, .unset, .unset, .unset, .unset, .unset] [(.int (1 : Int32)), (.ref a42), (.ref a42)])) rfl (hb hby at_46) rfl (by decide) (cap := 1) (by decide) (by decide) (by decide) (by decide)
      obtain ⟨a43, g43⟩ : ∃ z, z = h42.size := ⟨_, rfl⟩
      rw [← g43] at A43 st43
      have V43 : Arv Z h43 a43 k43 .char (1 : Int32) [(.int (0 : Int32))] (.int (0 : Int32)) := Arv.pad (Arv.new A43 (by decide)) (pad_rep [] _ 1)
      have Z43 : n0 ≤ h43.size := Nat.le_trans Z42 E43.1
      have S43 : Safe Z own_EL sS.vm h42 a43 := Safe.new (Nat.le_of_eq g43.symm)
      have C43 := CHr.trans C42 (CHr.ext E43 C42.1)
      have hk := Nat.le_trans hk E43.1
      refine Go.st (S' := T43.setTop (mkF m 48 #[.val (.int p0), .val (.int p1), .val (.int p2), .val (.int p3), .val (.int ((p0 &&& (255 : Int32))).toUInt32.toUInt16.toUInt32.toInt32), .val (.int (((XT.ushr p0 (8 : Int32)) &&& (255 : Int32))).toUInt32.toUInt16.toUInt32.toInt32), .val (.int (p3 &&& (3 : Int32))), .unset, .unset, .unset, .unset, .unset, .unset] [(.ref a43), (.ref a42), (.ref a42)])) (fun t kt => st43 t kt) ?_
      refine Go.st (S' := T43.setTop (mkF m 49 #[.val (.int p0), .val (.int p1), .val (.int p2), .val (.int p3), .val (.int ((p0 &&& (255 : Int32))).toUInt32.toUInt16.toUInt32.toInt32), .val (.int (((XT.ushr p0 (8 : Int32)) &&& (255 : Int32))).toUInt32.toUInt16.toUInt32.toInt32), .val (.int (p3 &&& (3 : Int32))), .unset, .unset, .unset, .unset, .unset, .unset] [(.ref a43), (.ref a43), (.ref a42), (.ref a42)])) (fun t kt => XS.dup X43.here hx rfl (hb hby at_48) rfl rfl kt) ?_
      refine Go.st (S' := T43.setTop (mkF m 50 #[.val (.int p0), .val (.int p1), .val (.int p2), .val (.int p3), .val (.int ((p0 &&& (255 : Int32))).toUInt32.toUInt16.toUInt32.toInt32), .val (.int (((XT.ushr p0 (8 : Int32)) &&& (255 : Int32))).toUInt32.toUInt16.toUInt32.toInt32), .val (.int (p3 &&& (3 : Int32))), .unset, .unset, .unset, .unset, .unset, .unset] [(.int (0 : Int32)), (.ref a43), (.ref a43), (.ref a42), (.ref a42)])) (fun t kt => XS.iconst X43.here hx rfl (hb hby at_49) kt) ?_
      refine Go.st (S' := T43.setTop (mkF m 52 #[.val (.int p0), .val (.int p1), .val (.int p2), .val (.int p3), .val (.int ((p0 &&& (255 : Int32))).toUInt32.toUInt16.toUInt32.toInt32), .val (.int (((XT.ushr p0 (8 : Int32)) &&& (255 : Int32))).toUInt32.toUInt16.toUInt32.toInt32), .val (.int (p3 &&& (3 : Int32))), .unset, .unset, .unset, .unset, .unset, .unset] [(.int ((p0 &&& (255 : Int32))).toUInt32.toUInt16.toUInt32.toInt32), (.int (0 : Int32)), (.ref a43), (.ref a43), (.ref a42), (.ref a42)])) (fun t kt => XS.iload X43.here hx rfl (hb hby at_50) rfl kt) ?_
      obtain ⟨cl44, Ar44, q44, S44, M44, H44, G44⟩ := id V43
      obtain ⟨T44, h44, X44, e44, W44, st44⟩ := stC X43 hx hZ e43 Ar44 (j := (0 : Int32)) (inb_of S44 ⟨by decide, by decide⟩)  (g := (mkF m 52 #[.val (.int p0), .val (.int p1), .val (.int p2), .val (.int p3), .val (.int ((p0 &&& (255 : Int32))).toUInt32.toUInt16.toUInt32.toInt32), .val (.int (((XT.ushr p0 (8 : Int32)) &&& (255 : Int32))).toUInt32.toUInt16.toUInt32.toInt32), .val (.int (p3 &&& (3 : Int32))), .unset, .unset, .unset, .unset, .unset, .unset] [(.int ((p0 &&& (255 : Int32))).toUInt32.toUInt16.toUInt32.toInt32), (.int (0 : Int32)), (.ref a43), (.ref a43), (.ref a42), (.ref a42)])) rfl rfl (hb hby at_52)
      have V44 : Arv Z h44 a43 k43 .char (1 : Int32) [(.int (nar .char ((p0 &&& (255 : Int32))).toUInt32.toUInt16.toUInt32.toInt32))] (.int (0 : Int32)) := Arv.set Ar44 q44 S44 M44 H44 G44 (fits_nar_char _) W44 0 rfl (Nat.le_of_ble_eq_true rfl)
      have N44 := Fr.snoc X44 N0 (Nat.le_trans Z42 (Nat.le_of_eq g43.symm))
      have Z44 : n0 ≤ h44.size := by rw [Wr.size W44]; exact Z43
      have f45 := (Safe.ext E43 C42.1 S43)
      have C44 := CHr.trans C43 (CHr.wr W44 f45 C43.1)
      have hk := Nat.le_trans hk (Nat.le_of_eq (Wr.size W44).symm)
      refine Go.st (S' := T44.setTop (mkF m 53 #[.val (.int p0), .val (.int p1), .val (.int p2), .val (.int p3), .val (.int ((p0 &&& (255 : Int32))).toUInt32.toUInt16.toUInt32.toInt32), .val (.int (((XT.ushr p0 (8 : Int32)) &&& (255 : Int32))).toUInt32.toUInt16.toUInt32.toInt32), .val (.int (p3 &&& (3 : Int32))), .unset, .unset, .unset, .unset, .unset, .unset] [(.ref a43), (.ref a42), (.ref a42)])) (fun t kt => st44 t kt) ?_
      have f46 := (Exa.wr W44 (A42.ext E43))
      have f47 := (Fld.other W44 (F42_value.ext E43) (Or.inl (Nat.ne_of_lt (by rw [g43]; exact A42.lt))))
      have f48 := (Fld.other W44 (F42_coder.ext E43) (Or.inl (Nat.ne_of_lt (by rw [g43]; exact A42.lt))))
      have f49 := (Sta.wr W44 ((S_cs.ext E42).ext E43))
      refine Go.init X44 hx hZ rfl hown (hw _ (List.mem_of_getElem? (i := 4) rfl)) (hw _ (List.mem_of_getElem? (i := 5) rfl)) (hw _ (List.mem_of_getElem? (i := 6) rfl)) (hw _ (List.mem_of_getElem? (i := 2) rfl)) (by decide) (b := a42) (argsL := [(.ref a43)]) (rest := [(.ref a42)]) (rmK1_1 l Z a0 hw a42 a43 k43 (nar .char ((p0 &&& (255 : Int32))).toUInt32.toUInt16.toUInt32.toInt32) h44 n0 Z44 f46 (Nat.le_trans Z0 (Nat.le_of_eq g42.symm)) (Ne.symm (Nat.ne_of_lt (by rw [g43]; exact A42.lt))) f47 f48 V44 (own_char p0) cs f49 hcs) e44 rfl (by rw [hml]; rfl) pd___C_V rfl (hb hby at_53) 1 (Nat.le_refl _) (by decide) (by decide) (by decide) (by decide) ?_
      intro v50 T50 L50 X50 hQ50
      have f51 := (Safe.wr W44 f45 C43.1 (Safe.ext E43 C42.1 (Safe.ext E42 C0.1 S42)))
      obtain ⟨d50, k50, hv50, N50', K50', y50_0, u50_0, f50_0, f50_1, f50_2, f50_3⟩ := hQ50
      subst hv50
      have N50 := Fr.app N44 N50'
      have Z50 : n0 ≤ T50.heap.size := Nat.le_trans Z44 K50'.1
      have eh50 : T50.heap = T50.heap := rfl
      have C50 := CHr.trans C44 (CHr.keep K50' (allS f51 all0) C44.1)
      have hk := Nat.le_trans hk K50'.1
      show Go pP eE below _ (T50.setTop (mkF m 56 #[.val (.int p0), .val (.int p1), .val (.int p2), .val (.int p3), .val (.int ((p0 &&& (255 : Int32))).toUInt32.toUInt16.toUInt32.toInt32), .val (.int (((XT.ushr p0 (8 : Int32)) &&& (255 : Int32))).toUInt32.toUInt16.toUInt32.toInt32), .val (.int (p3 &&& (3 : Int32))), .unset, .unset, .unset, .unset, .unset, .unset] [(.ref a42)]))
      refine Go.st (S' := T50.setTop (mkF m 58 #[.val (.int p0), .val (.int p1), .val (.int p2), .val (.int p3), .val (.int ((p0 &&& (255 : Int32))).toUInt32.toUInt16.toUInt32.toInt32), .val (.int (((XT.ushr p0 (8 : Int32)) &&& (255 : Int32))).toUInt32.toUInt16.toUInt32.toInt32), .val (.int (p3 &&& (3 : Int32))), .val (.ref a42), .unset, .unset, .unset, .unset, .unset] [])) (fun t kt => XS.astore X50.here hx rfl (hb hby at_56) rfl rfl rfl kt) ?_
      refine Go.st (S' := T50.setTop (mkF m 104 #[.val (.int p0), .val (.int p1), .val (.int p2), .val (.int p3), .val (.int ((p0 &&& (255 : Int32))).toUInt32.toUInt16.toUInt32.toInt32), .val (.int (((XT.ushr p0 (8 : Int32)) &&& (255 : Int32))).toUInt32.toUInt16.toUInt32.toInt32), .val (.int (p3 &&& (3 : Int32))), .val (.ref a42), .unset, .unset, .unset, .unset, .unset] [])) (fun t kt => XS.goto X50.here hx rfl (pc0 := 58) (pc' := 104) rfl (hb hby at_58) (by decide) (by decide) kt) ?_
      refine Go.st (S' := T50.setTop (mkF m 105 #[.val (.int p0), .val (.int p1), .val (.int p2), .val (.int p3), .val (.int ((p0 &&& (255 : Int32))).toUInt32.toUInt16.toUInt32.toInt32), .val (.int (((XT.ushr p0 (8 : Int32)) &&& (255 : Int32))).toUInt32.toUInt16.toUInt32.toInt32), .val (.int (p3 &&& (3 : Int32))), .val (.ref a42), .unset, .unset, .unset, .unset, .unset] [(.int p3)])) (fun t kt => XS.iloadN X50.here hx rfl (hb hby at_104) rfl kt) ?_
      refine Go.st (S' := T50.setTop (mkF m 106 #[.val (.int p0), .val (.int p1), .val (.int p2), .val (.int p3), .val (.int ((p0 &&& (255 : Int32))).toUInt32.toUInt16.toUInt32.toInt32), .val (.int (((XT.ushr p0 (8 : Int32)) &&& (255 : Int32))).toUInt32.toUInt16.toUInt32.toInt32), .val (.int (p3 &&& (3 : Int32))), .val (.ref a42), .unset, .unset, .unset, .unset, .unset] [(.int (4 : Int32)), (.int p3)])) (fun t kt => XS.iconst X50.here hx rfl (hb hby at_105) kt) ?_
      refine Go.st (S' := T50.setTop (mkF m 107 #[.val (.int p0), .val (.int p1), .val (.int p2), .val (.int p3), .val (.int ((p0 &&& (255 : Int32))).toUInt32.toUInt16.toUInt32.toInt32), .val (.int (((XT.ushr p0 (8 : Int32)) &&& (255 : Int32))).toUInt32.toUInt16.toUInt32.toInt32), .val (.int (p3 &&& (3 : Int32))), .val (.ref a42), .unset, .unset, .unset, .unset, .unset] [(.int (p3 &&& (4 : Int32)))])) (fun t kt => XS.iand X50.here hx rfl (hb hby at_106) rfl kt) ?_
      by_cases hc107_52 : (p3 &&& (4 : Int32)) = 0
      · refine Go.st (S' := T50.setTop (mkF m 114 #[.val (.int p0), .val (.int p1), .val (.int p2), .val (.int p3), .val (.int ((p0 &&& (255 : Int32))).toUInt32.toUInt16.toUInt32.toInt32), .val (.int (((XT.ushr p0 (8 : Int32)) &&& (255 : Int32))).toUInt32.toUInt16.toUInt32.toInt32), .val (.int (p3 &&& (3 : Int32))), .val (.ref a42), .unset, .unset, .unset, .unset, .unset] [])) (fun t kt => XS.ifYes X50.here hx rfl (pc0 := 107) (pc' := 114) rfl (hb hby at_107) rfl (XT.i0_eq_t hc107_52) (by decide) (by decide) kt) ?_
        refine Go.st (S' := T50.setTop (mkF m 115 #[.val (.int p0), .val (.int p1), .val (.int p2), .val (.int p3), .val (.int ((p0 &&& (255 : Int32))).toUInt32.toUInt16.toUInt32.toInt32), .val (.int (((XT.ushr p0 (8 : Int32)) &&& (255 : Int32))).toUInt32.toUInt16.toUInt32.toInt32), .val (.int (p3 &&& (3 : Int32))), .val (.ref a42), .unset, .unset, .unset, .unset, .unset] [(.int (0 : Int32))])) (fun t kt => XS.iconst X50.here hx rfl (hb hby at_114) kt) ?_
        refine Go.st (S' := T50.setTop (mkF m 117 #[.val (.int p0), .val (.int p1), .val (.int p2), .val (.int p3), .val (.int ((p0 &&& (255 : Int32))).toUInt32.toUInt16.toUInt32.toInt32), .val (.int (((XT.ushr p0 (8 : Int32)) &&& (255 : Int32))).toUInt32.toUInt16.toUInt32.toInt32), .val (.int (p3 &&& (3 : Int32))), .val (.ref a42), .val (.int (0 : Int32)), .unset, .unset, .unset, .unset] [])) (fun t kt => XS.istore X50.here hx rfl (hb hby at_115) rfl rfl kt) ?_
        obtain ⟨T53, h53, X53, e53, E53, A53, D53, -, st53⟩ := newO X50 hx hZ hown (hw _ (List.mem_of_getElem? (i := 30) rfl)) (hw _ (List.mem_of_getElem? (i := 31) rfl)) (hw _ (List.mem_of_getElem? (i := 32) rfl)) eh50 (g := (mkF m 117 #[.val (.int p0), .val (.int p1), .val (.int p2), .val (.int p3), .val (.int ((p0 &&& (255 : Int32))).toUInt32.toUInt16.toUInt32.toInt32), .val (.int (((XT.ushr p0 (8 : Int32)) &&& (255 : Int32))).toUInt32.toUInt16.toUInt32.toInt32), .val (.int (p3 &&& (3 : Int32))), .val (.ref a42), .val (.int (0 : Int32)), .unset, .unset, .unset, .unset] [])) rfl (hb hby at_117) (by decide) (by decide)
        obtain ⟨a53, g53⟩ : ∃ z, z = T50.heap.size := ⟨_, rfl⟩
        rw [← g53] at A53 D53 st53
        have Z53 : n0 ≤ h53.size := Nat.le_trans Z50 E53.1
        have f54 := (V44.keep K50' (ninS (Ne.symm (Nat.ne_of_lt (by rw [g43]; exact A42.lt))) nin0))
        have S53 : Safe Z own_EL sS.vm T50.heap a53 := Safe.new (Nat.le_of_eq g53.symm)
        have C53 := CHr.trans C50 (CHr.ext E53 C50.1)
        have hk := Nat.le_trans hk E53.1
        have F53_unit : Fld Z h53 a53 "com/example/seatwright/seatwright/engine/Bucket" "unit" "Ljava/lang/String;" .null := D53 (Or.inr (hw _ (List.mem_of_getElem? (i := 38) rfl))) (ty := (.object "java/lang/String")) (by decide)
        have F53_size : Fld Z h53 a53 "com/example/seatwright/seatwright/engine/Bucket" "size" "I" (.int (0 : Int32)) := D53 (Or.inr (hw _ (List.mem_of_getElem? (i := 40) rfl))) (ty := .int) (by decide)
        have F53_inUse : Fld Z h53 a53 "com/example/seatwright/seatwright/engine/Bucket" "inUse" "I" (.int (0 : Int32)) := D53 (Or.inl (hw _ (List.mem_of_getElem? (i := 42) rfl))) (ty := .int) (by decide)
        have F53_above : Fld Z h53 a53 "com/example/seatwright/seatwright/engine/Bucket" "above" "Lcom/example/seatwright/seatwright/engine/Bucket;" .null := D53 (Or.inl (hw _ (List.mem_of_getElem? (i := 71) rfl))) (ty := (.object "com/example/seatwright/seatwright/engine/Bucket")) (by decide)
        refine Go.st (S' := T53.setTop (mkF m 120 #[.val (.int p0), .val (.int p1), .val (.int p2), .val (.int p3), .val (.int ((p0 &&& (255 : Int32))).toUInt32.toUInt16.toUInt32.toInt32), .val (.int (((XT.ushr p0 (8 : Int32)) &&& (255 : Int32))).toUInt32.toUInt16.toUInt32.toInt32), .val (.int (p3 &&& (3 : Int32))), .val (.ref a42), .val (.int (0 : Int32)), .unset, .unset, .unset, .unset] [(.ref a53)])) (fun t kt => st53 t kt) ?_
        refine Go.st (S' := T53.setTop (mkF m 121 #[.val (.int p0), .val (.int p1), .val (.int p2), .val (.int p3), .val (.int ((p0 &&& (255 : Int32))).toUInt32.toUInt16.toUInt32.toInt32), .val (.int (((XT.ushr p0 (8 : Int32)) &&& (255 : Int32))).toUInt32.toUInt16.toUInt32.toInt32), .val (.int (p3 &&& (3 : Int32))), .val (.ref a42), .val (.int (0 : Int32)), .unset, .unset, .unset, .unset] [(.ref a53), (.ref a53)])) (fun t kt => XS.dup X53.here hx rfl (hb hby at_120) rfl rfl kt) ?_
        refine Go.st (S' := T53.setTop (mkF m 123 #[.val (.int p0), .val (.int p1), .val (.int p2), .val (.int p3), .val (.int ((p0 &&& (255 : Int32))).toUInt32.toUInt16.toUInt32.toInt32), .val (.int (((XT.ushr p0 (8 : Int32)) &&& (255 : Int32))).toUInt32.toUInt16.toUInt32.toInt32), .val (.int (p3 &&& (3 : Int32))), .val (.ref a42), .val (.int (0 : Int32)), .unset, .unset, .unset, .unset] [(.ref a42), (.ref a53), (.ref a53)])) (fun t kt => XS.aload X53.here hx rfl (hb hby at_121) rfl rfl kt) ?_
        refine Go.st (S' := T53.setTop (mkF m 124 #[.val (.int p0), .val (.int p1), .val (.int p2), .val (.int p3), .val (.int ((p0 &&& (255 : Int32))).toUInt32.toUInt16.toUInt32.toInt32), .val (.int (((XT.ushr p0 (8 : Int32)) &&& (255 : Int32))).toUInt32.toUInt16.toUInt32.toInt32), .val (.int (p3 &&& (3 : Int32))), .val (.ref a42), .val (.int (0 : Int32)), .unset, .unset, .unset, .unset] [(.int p1), (.ref a42), (.ref a53), (.ref a53)])) (fun t kt => XS.iloadN X53.here hx rfl (hb hby at_123) rfl kt) ?_
        refine Go.st (S' := T53.setTop (mkF m 125 #[.val (.int p0), .val (.int p1), .val (.int p2), .val (.int p3), .val (.int ((p0 &&& (255 : Int32))).toUInt32.toUInt16.toUInt32.toInt32), .val (.int (((XT.ushr p0 (8 : Int32)) &&& (255 : Int32))).toUInt32.toUInt16.toUInt32.toInt32), .val (.int (p3 &&& (3 : Int32))), .val (.ref a42), .val (.int (0 : Int32)), .unset, .unset, .unset, .unset] [(.int p2), (.int p1), (.ref a42), (.ref a53), (.ref a53)])) (fun t kt => XS.iloadN X53.here hx rfl (hb hby at_124) rfl kt) ?_
        refine Go.init X53 hx hZ rfl hown (hw _ (List.mem_of_getElem? (i := 33) rfl)) (hw _ (List.mem_of_getElem? (i := 34) rfl)) (hw _ (List.mem_of_getElem? (i := 35) rfl)) (hw _ (List.mem_of_getElem? (i := 32) rfl)) (by decide) (b := a53) (argsL := [(.ref a42), (.int p1), (.int p2)]) (rest := [(.ref a53)]) (rm2 l Z a0 hw a53 (.ref a42) rfl p1 p2 h53 n0 Z53 A53 (Nat.le_trans Z50 (Nat.le_of_eq g53.symm)) F53_unit F53_size F53_inUse F53_above) e53 rfl (by rw [hml]; rfl) pd__Ljava_lang_String_II_V rfl (hb hby at_125) 1 (Nat.le_refl _) (by decide) (by decide) (by decide) (by decide) ?_
        intro v55 T55 L55 X55 hQ55
        have f56 := (f50_0.ext E53)
        have f57 := (f54.ext E53)
        have f58 := (f50_3.ext E53)
        have f59 := (Safe.ext E53 C50.1 S53)
        obtain ⟨hv55, N55', K55', f55_0, f55_1, f55_2, f55_3, f55_4⟩ := hQ55
        subst hv55
        have N55 := Fr.app N50 N55'
        have Z55 : n0 ≤ T55.heap.size := Nat.le_trans Z53 K55'.1
        have eh55 : T55.heap = T55.heap := rfl
        have C55 := CHr.trans C53 (CHr.keep K55' (allS f59 all0) C53.1)
        have hk := Nat.le_trans hk K55'.1
        show Go pP eE below _ (T55.setTop (mkF m 128 #[.val (.int p0), .val (.int p1), .val (.int p2), .val (.int p3), .val (.int ((p0 &&& (255 : Int32))).toUInt32.toUInt16.toUInt32.toInt32), .val (.int (((XT.ushr p0 (8 : Int32)) &&& (255 : Int32))).toUInt32.toUInt16.toUInt32.toInt32), .val (.int (p3 &&& (3 : Int32))), .val (.ref a42), .val (.int (0 : Int32)), .unset, .unset, .unset, .unset] [(.ref a53)]))
        refine Go.st (S' := T55.setTop (mkF m 130 #[.val (.int p0), .val (.int p1), .val (.int p2), .val (.int p3), .val (.int ((p0 &&& (255 : Int32))).toUInt32.toUInt16.toUInt32.toInt32), .val (.int (((XT.ushr p0 (8 : Int32)) &&& (255 : Int32))).toUInt32.toUInt16.toUInt32.toInt32), .val (.int (p3 &&& (3 : Int32))), .val (.ref a42), .val (.int (0 : Int32)), .val (.ref a53), .unset, .unset, .unset] [])) (fun t kt => XS.astore X55.here hx rfl (hb hby at_128) rfl rfl rfl kt) ?_
        refine Go.st (S' := T55.setTop (mkF m 132 #[.val (.int p0), .val (.int p1), .val (.int p2), .val (.int p3), .val (.int ((p0 &&& (255 : Int32))).toUInt32.toUInt16.toUInt32.toInt32), .val (.int (((XT.ushr p0 (8 : Int32)) &&& (255 : Int32))).toUInt32.toUInt16.toUInt32.toInt32), .val (.int (p3 &&& (3 : Int32))), .val (.ref a42), .val (.int (0 : Int32)), .val (.ref a53), .unset, .unset, .unset] [(.int (0 : Int32))])) (fun t kt => XS.iload X55.here hx rfl (hb hby at_130) rfl kt) ?_
        refine Go.st (S' := T55.setTop (mkF m 142 #[.val (.int p0), .val (.int p1), .val (.int p2), .val (.int p3), .val (.int ((p0 &&& (255 : Int32))).toUInt32.toUInt16.toUInt32.toInt32), .val (.int (((XT.ushr p0 (8 : Int32)) &&& (255 : Int32))).toUInt32.toUInt16.toUInt32.toInt32), .val (.int (p3 &&& (3 : Int32))), .val (.ref a42), .val (.int (0 : Int32)), .val (.ref a53), .unset, .unset, .unset] [])) (fun t kt => XS.ifYes X55.here hx rfl (pc0 := 132) (pc' := 142) rfl (hb hby at_132) rfl (XT.i0_eq_t (by decide)) (by decide) (by decide) kt) ?_
        refine Go.st (S' := T55.setTop (mkF m 144 #[.val (.int p0), .val (.int p1), .val (.int p2), .val (.int p3), .val (.int ((p0 &&& (255 : Int32))).toUInt32.toUInt16.toUInt32.toInt32), .val (.int (((XT.ushr p0 (8 : Int32)) &&& (255 : Int32))).toUInt32.toUInt16.toUInt32.toInt32), .val (.int (p3 &&& (3 : Int32))), .val (.ref a42), .val (.int (0 : Int32)), .val (.ref a53), .unset, .unset, .unset] [(.ref a53)])) (fun t kt => XS.aload X55.here hx rfl (hb hby at_142) rfl rfl kt) ?_
        refine Go.virt X55 hx hZ hown (hw _ (List.mem_of_getElem? (i := 43) rfl)) (hw _ (List.mem_of_getElem? (i := 44) rfl)) (notFace_of_selects (mvT (args := #[]) hZ (hw _ (List.mem_of_getElem? (i := 46) rfl)))) (hw _ (List.mem_of_getElem? (i := 46) rfl)) (hw _ (List.mem_of_getElem? (i := 45) rfl)) (hw _ (List.mem_of_getElem? (i := 47) rfl)) (hw _ (List.mem_of_getElem? (i := 32) rfl)) (by decide) (b := a53) (argsL := []) (rest := []) (rm3 l Z a0 hw a53 (.ref a42) rfl p1 p2 .null rfl T55.heap n0 Z55 f55_0 (Nat.le_trans Z50 (Nat.le_of_eq g53.symm)) f55_1 f55_2 f55_3 f55_4) eh55 f55_0 rfl (by rw [hml]; rfl) pd___Lcom_example_seatwright_seatwright_engine_Bucket_ rfl (hb hby at_144) 0 (Nat.le_refl _) (by decide) (by decide) (by decide) (by decide) ?_
        intro v60 T60 L60 X60 hQ60
        have f61 := (f56.keep K55')
        have f62 := (f57.keep K55' (ninS (Nat.ne_of_lt (by rw [g53]; exact f54.lt)) nin0))
        have f63 := (f58.keep K55' (ninS (Nat.ne_of_lt (by rw [g53]; exact f50_3.lt)) nin0))
        obtain ⟨b60, hv60, N60', K60', y60_0, u60_0, f60_0, f60_1, f60_2, f60_3, f60_4⟩ := hQ60
        subst hv60
        have N60 := Fr.app N55 N60'
        have Z60 : n0 ≤ T60.heap.size := Nat.le_trans Z55 K60'.1
        have eh60 : T60.heap = T60.heap := rfl
        have C60 := CHr.trans C55 (CHr.keep K60' all0 C55.1)
        have hk := Nat.le_trans hk K60'.1
        show Go pP eE below _ (T60.setTop (mkF m 147 #[.val (.int p0), .val (.int p1), .val (.int p2), .val (.int p3), .val (.int ((p0 &&& (255 : Int32))).toUInt32.toUInt16.toUInt32.toInt32), .val (.int (((XT.ushr p0 (8 : Int32)) &&& (255 : Int32))).toUInt32.toUInt16.toUInt32.toInt32), .val (.int (p3 &&& (3 : Int32))), .val (.ref a42), .val (.int (0 : Int32)), .val (.ref a53), .unset, .unset, .unset] [(.ref b60)]))
        refine Go.st (S' := T60.setTop (mkF m 149 #[.val (.int p0), .val (.int p1), .val (.int p2), .val (.int p3), .val (.int ((p0 &&& (255 : Int32))).toUInt32.toUInt16.toUInt32.toInt32), .val (.int (((XT.ushr p0 (8 : Int32)) &&& (255 : Int32))).toUInt32.toUInt16.toUInt32.toInt32), .val (.int (p3 &&& (3 : Int32))), .val (.ref a42), .val (.int (0 : Int32)), .val (.ref a53), .val (.ref b60), .unset, .unset] [])) (fun t kt => XS.astore X60.here hx rfl (hb hby at_147) rfl rfl rfl kt) ?_
        refine Go.st (S' := T60.setTop (mkF m 151 #[.val (.int p0), .val (.int p1), .val (.int p2), .val (.int p3), .val (.int ((p0 &&& (255 : Int32))).toUInt32.toUInt16.toUInt32.toInt32), .val (.int (((XT.ushr p0 (8 : Int32)) &&& (255 : Int32))).toUInt32.toUInt16.toUInt32.toInt32), .val (.int (p3 &&& (3 : Int32))), .val (.ref a42), .val (.int (0 : Int32)), .val (.ref a53), .val (.ref b60), .unset, .unset] [(.ref b60)])) (fun t kt => XS.aload X60.here hx rfl (hb hby at_149) rfl rfl kt) ?_
        refine Go.st (S' := T60.setTop (mkF m 154 #[.val (.int p0), .val (.int p1), .val (.int p2), .val (.int p3), .val (.int ((p0 &&& (255 : Int32))).toUInt32.toUInt16.toUInt32.toInt32), .val (.int (((XT.ushr p0 (8 : Int32)) &&& (255 : Int32))).toUInt32.toUInt16.toUInt32.toInt32), .val (.int (p3 &&& (3 : Int32))), .val (.ref a42), .val (.int (0 : Int32)), .val (.ref a53), .val (.ref b60), .unset, .unset] [])) (fun t kt => XS.ifnullNo X60.here hx rfl (hb hby at_151) rfl kt) ?_
        refine Go.st (S' := T60.setTop (mkF m 156 #[.val (.int p0), .val (.int p1), .val (.int p2), .val (.int p3), .val (.int ((p0 &&& (255 : Int32))).toUInt32.toUInt16.toUInt32.toInt32), .val (.int (((XT.ushr p0 (8 : Int32)) &&& (255 : Int32))).toUInt32.toUInt16.toUInt32.toInt32), .val (.int (p3 &&& (3 : Int32))), .val (.ref a42), .val (.int (0 : Int32)), .val (.ref a53), .val (.ref b60), .unset, .unset] [(.ref b60)])) (fun t kt => XS.aload X60.here hx rfl (hb hby at_154) rfl rfl kt) ?_
        refine Go.st (S' := T60.setTop (mkF m 158 #[.val (.int p0), .val (.int p1), .val (.int p2), .val (.int p3), .val (.int ((p0 &&& (255 : Int32))).toUInt32.toUInt16.toUInt32.toInt32), .val (.int (((XT.ushr p0 (8 : Int32)) &&& (255 : Int32))).toUInt32.toUInt16.toUInt32.toInt32), .val (.int (p3 &&& (3 : Int32))), .val (.ref a42), .val (.int (0 : Int32)), .val (.ref a53), .val (.ref b60), .unset, .unset] [(.ref a53), (.ref b60)])) (fun t kt => XS.aload X60.here hx rfl (hb hby at_156) rfl rfl kt) ?_
        refine Go.st (S' := T60.setTop (mkF m 163 #[.val (.int p0), .val (.int p1), .val (.int p2), .val (.int p3), .val (.int ((p0 &&& (255 : Int32))).toUInt32.toUInt16.toUInt32.toInt32), .val (.int (((XT.ushr p0 (8 : Int32)) &&& (255 : Int32))).toUInt32.toUInt16.toUInt32.toInt32), .val (.int (p3 &&& (3 : Int32))), .val (.ref a42), .val (.int (0 : Int32)), .val (.ref a53), .val (.ref b60), .unset, .unset] [])) (fun t kt => XT.acmpYes X60.here hx rfl (pc0 := 158) (pc' := 163) rfl (hb hby at_158) rfl rfl rfl (XT.aa_ne_t (fun q => (Ne.symm (Nat.ne_of_lt (Nat.lt_of_lt_of_le f55_0.lt y60_0))) (Value.ref.inj q))) (by decide) (by decide) kt) ?_
        refine Go.st (S' := T60.setTop (mkF m 165 #[.val (.int p0), .val (.int p1), .val (.int p2), .val (.int p3), .val (.int ((p0 &&& (255 : Int32))).toUInt32.toUInt16.toUInt32.toInt32), .val (.int (((XT.ushr p0 (8 : Int32)) &&& (255 : Int32))).toUInt32.toUInt16.toUInt32.toInt32), .val (.int (p3 &&& (3 : Int32))), .val (.ref a42), .val (.int (0 : Int32)), .val (.ref a53), .val (.ref b60), .unset, .unset] [(.ref b60)])) (fun t kt => XS.aload X60.here hx rfl (hb hby at_163) rfl rfl kt) ?_
        refine Go.virt X60 hx hZ hown (hw _ (List.mem_of_getElem? (i := 50) rfl)) (hw _ (List.mem_of_getElem? (i := 51) rfl)) (notFace_of_selects (mvT (args := #[]) hZ (hw _ (List.mem_of_getElem? (i := 53) rfl)))) (hw _ (List.mem_of_getElem? (i := 53) rfl)) (hw _ (List.mem_of_getElem? (i := 52) rfl)) (hw _ (List.mem_of_getElem? (i := 54) rfl)) (hw _ (List.mem_of_getElem? (i := 32) rfl)) (by decide) (b := b60) (argsL := []) (rest := []) (rm6 l Z a0 hw b60 (.ref a42) rfl T60.heap n0 Z60 f60_1) eh60 f60_0 rfl (by rw [hml]; rfl) pd___Ljava_lang_String_ rfl (hb hby at_165) 0 (Nat.le_refl _) (by decide) (by decide) (by decide) (by decide) ?_
        intro v64 T64 L64 X64 hQ64
        obtain ⟨hv64, N64', e64⟩ := hQ64
        subst hv64
        have N64 := Fr.app N60 N64'
        show Go pP eE below _ (T64.setTop (mkF m 168 #[.val (.int p0), .val (.int p1), .val (.int p2), .val (.int p3), .val (.int ((p0 &&& (255 : Int32))).toUInt32.toUInt16.toUInt32.toInt32), .val (.int (((XT.ushr p0 (8 : Int32)) &&& (255 : Int32))).toUInt32.toUInt16.toUInt32.toInt32), .val (.int (p3 &&& (3 : Int32))), .val (.ref a42), .val (.int (0 : Int32)), .val (.ref a53), .val (.ref b60), .unset, .unset] [(.ref a42)]))
        refine Go.st (S' := T64.setTop (mkF m 170 #[.val (.int p0), .val (.int p1), .val (.int p2), .val (.int p3), .val (.int ((p0 &&& (255 : Int32))).toUInt32.toUInt16.toUInt32.toInt32), .val (.int (((XT.ushr p0 (8 : Int32)) &&& (255 : Int32))).toUInt32.toUInt16.toUInt32.toInt32), .val (.int (p3 &&& (3 : Int32))), .val (.ref a42), .val (.int (0 : Int32)), .val (.ref a53), .val (.ref b60), .unset, .unset] [(.ref a42), (.ref a42)])) (fun t kt => XS.aload X64.here hx rfl (hb hby at_168) rfl rfl kt) ?_
        refine Go.st (S' := T64.setTop (mkF m 173 #[.val (.int p0), .val (.int p1), .val (.int p2), .val (.int p3), .val (.int ((p0 &&& (255 : Int32))).toUInt32.toUInt16.toUInt32.toInt32), .val (.int (((XT.ushr p0 (8 : Int32)) &&& (255 : Int32))).toUInt32.toUInt16.toUInt32.toInt32), .val (.int (p3 &&& (3 : Int32))), .val (.ref a42), .val (.int (0 : Int32)), .val (.ref a53), .val (.ref b60), .unset, .unset] [])) (fun t kt => XT.acmpNo X64.here hx rfl (hb hby at_170) rfl rfl rfl (XT.aa_ne_f rfl) kt) ?_
        refine Go.st (S' := T64.setTop (mkF m 175 #[.val (.int p0), .val (.int p1), .val (.int p2), .val (.int p3), .val (.int ((p0 &&& (255 : Int32))).toUInt32.toUInt16.toUInt32.toInt32), .val (.int (((XT.ushr p0 (8 : Int32)) &&& (255 : Int32))).toUInt32.toUInt16.toUInt32.toInt32), .val (.int (p3 &&& (3 : Int32))), .val (.ref a42), .val (.int (0 : Int32)), .val (.ref a53), .val (.ref b60), .unset, .unset] [(.ref b60)])) (fun t kt => XS.aload X64.here hx rfl (hb hby at_173) rfl rfl kt) ?_
        refine Go.virt X64 hx hZ hown (hw _ (List.mem_of_getElem? (i := 55) rfl)) (hw _ (List.mem_of_getElem? (i := 56) rfl)) (notFace_of_selects (mvT (args := #[]) hZ (hw _ (List.mem_of_getElem? (i := 58) rfl)))) (hw _ (List.mem_of_getElem? (i := 58) rfl)) (hw _ (List.mem_of_getElem? (i := 57) rfl)) (hw _ (List.mem_of_getElem? (i := 59) rfl)) (hw _ (List.mem_of_getElem? (i := 32) rfl)) (by decide) (b := b60) (argsL := []) (rest := []) (rm7 l Z a0 hw b60 p1 T60.heap n0 Z60 f60_2) e64 f60_0 rfl (by rw [hml]; rfl) pd___I rfl (hb hby at_175) 0 (Nat.le_refl _) (by decide) (by decide) (by decide) (by decide) ?_
        intro v65 T65 L65 X65 hQ65
        obtain ⟨hv65, N65', e65⟩ := hQ65
        subst hv65
        have N65 := Fr.app N64 N65'
        show Go pP eE below _ (T65.setTop (mkF m 178 #[.val (.int p0), .val (.int p1), .val (.int p2), .val (.int p3), .val (.int ((p0 &&& (255 : Int32))).toUInt32.toUInt16.toUInt32.toInt32), .val (.int (((XT.ushr p0 (8 : Int32)) &&& (255 : Int32))).toUInt32.toUInt16.toUInt32.toInt32), .val (.int (p3 &&& (3 : Int32))), .val (.ref a42), .val (.int (0 : Int32)), .val (.ref a53), .val (.ref b60), .unset, .unset] [(.int p1)]))
        refine Go.st (S' := T65.setTop (mkF m 179 #[.val (.int p0), .val (.int p1), .val (.int p2), .val (.int p3), .val (.int ((p0 &&& (255 : Int32))).toUInt32.toUInt16.toUInt32.toInt32), .val (.int (((XT.ushr p0 (8 : Int32)) &&& (255 : Int32))).toUInt32.toUInt16.toUInt32.toInt32), .val (.int (p3 &&& (3 : Int32))), .val (.ref a42), .val (.int (0 : Int32)), .val (.ref a53), .val (.ref b60), .unset, .unset] [(.int p1), (.int p1)])) (fun t kt => XS.iloadN X65.here hx rfl (hb hby at_178) rfl kt) ?_
        refine Go.st (S' := T65.setTop (mkF m 182 #[.val (.int p0), .val (.int p1), .val (.int p2), .val (.int p3), .val (.int ((p0 &&& (255 : Int32))).toUInt32.toUInt16.toUInt32.toInt32), .val (.int (((XT.ushr p0 (8 : Int32)) &&& (255 : Int32))).toUInt32.toUInt16.toUInt32.toInt32), .val (.int (p3 &&& (3 : Int32))), .val (.ref a42), .val (.int (0 : Int32)), .val (.ref a53), .val (.ref b60), .unset, .unset] [])) (fun t kt => XS.icmpNo X65.here hx rfl (hb hby at_179) rfl (XT.ii_ne_f rfl) kt) ?_
        refine Go.st (S' := T65.setTop (mkF m 184 #[.val (.int p0), .val (.int p1), .val (.int p2), .val (.int p3), .val (.int ((p0 &&& (255 : Int32))).toUInt32.toUInt16.toUInt32.toInt32), .val (.int (((XT.ushr p0 (8 : Int32)) &&& (255 : Int32))).toUInt32.toUInt16.toUInt32.toInt32), .val (.int (p3 &&& (3 : Int32))), .val (.ref a42), .val (.int (0 : Int32)), .val (.ref a53), .val (.ref b60), .unset, .unset] [(.ref b60)])) (fun t kt => XS.aload X65.here hx rfl (hb hby at_182) rfl rfl kt) ?_
        refine Go.virt X65 hx hZ hown (hw _ (List.mem_of_getElem? (i := 60) rfl)) (hw _ (List.mem_of_getElem? (i := 61) rfl)) (notFace_of_selects (mvT (args := #[]) hZ (hw _ (List.mem_of_getElem? (i := 63) rfl)))) (hw _ (List.mem_of_getElem? (i := 63) rfl)) (hw _ (List.mem_of_getElem? (i := 62) rfl)) (hw _ (List.mem_of_getElem? (i := 64) rfl)) (hw _ (List.mem_of_getElem? (i := 32) rfl)) (by decide) (b := b60) (argsL := []) (rest := []) (rm8 l Z a0 hw b60 p2 T60.heap n0 Z60 f60_3) e65 f60_0 rfl (by rw [hml]; rfl) pd___I rfl (hb hby at_184) 0 (Nat.le_refl _) (by decide) (by decide) (by decide) (by decide) ?_
        intro v66 T66 L66 X66 hQ66
        obtain ⟨hv66, N66', e66⟩ := hQ66
        subst hv66
        have N66 := Fr.app N65 N66'
        show Go pP eE below _ (T66.setTop (mkF m 187 #[.val (.int p0), .val (.int p1), .val (.int p2), .val (.int p3), .val (.int ((p0 &&& (255 : Int32))).toUInt32.toUInt16.toUInt32.toInt32), .val (.int (((XT.ushr p0 (8 : Int32)) &&& (255 : Int32))).toUInt32.toUInt16.toUInt32.toInt32), .val (.int (p3 &&& (3 : Int32))), .val (.ref a42), .val (.int (0 : Int32)), .val (.ref a53), .val (.ref b60), .unset, .unset] [(.int p2)]))
        refine Go.st (S' := T66.setTop (mkF m 188 #[.val (.int p0), .val (.int p1), .val (.int p2), .val (.int p3), .val (.int ((p0 &&& (255 : Int32))).toUInt32.toUInt16.toUInt32.toInt32), .val (.int (((XT.ushr p0 (8 : Int32)) &&& (255 : Int32))).toUInt32.toUInt16.toUInt32.toInt32), .val (.int (p3 &&& (3 : Int32))), .val (.ref a42), .val (.int (0 : Int32)), .val (.ref a53), .val (.ref b60), .unset, .unset] [(.int p2), (.int p2)])) (fun t kt => XS.iloadN X66.here hx rfl (hb hby at_187) rfl kt) ?_
        refine Go.st (S' := T66.setTop (mkF m 191 #[.val (.int p0), .val (.int p1), .val (.int p2), .val (.int p3), .val (.int ((p0 &&& (255 : Int32))).toUInt32.toUInt16.toUInt32.toInt32), .val (.int (((XT.ushr p0 (8 : Int32)) &&& (255 : Int32))).toUInt32.toUInt16.toUInt32.toInt32), .val (.int (p3 &&& (3 : Int32))), .val (.ref a42), .val (.int (0 : Int32)), .val (.ref a53), .val (.ref b60), .unset, .unset] [])) (fun t kt => XS.icmpNo X66.here hx rfl (hb hby at_188) rfl (XT.ii_ne_f rfl) kt) ?_
        refine Go.st (S' := T66.setTop (mkF m 193 #[.val (.int p0), .val (.int p1), .val (.int p2), .val (.int p3), .val (.int ((p0 &&& (255 : Int32))).toUInt32.toUInt16.toUInt32.toInt32), .val (.int (((XT.ushr p0 (8 : Int32)) &&& (255 : Int32))).toUInt32.toUInt16.toUInt32.toInt32), .val (.int (p3 &&& (3 : Int32))), .val (.ref a42), .val (.int (0 : Int32)), .val (.ref a53), .val (.ref b60), .unset, .unset] [(.ref b60)])) (fun t kt => XS.aload X66.here hx rfl (hb hby at_191) rfl rfl kt) ?_
        refine Go.virt X66 hx hZ hown (hw _ (List.mem_of_getElem? (i := 65) rfl)) (hw _ (List.mem_of_getElem? (i := 66) rfl)) (notFace_of_selects (mvT (args := #[]) hZ (hw _ (List.mem_of_getElem? (i := 68) rfl)))) (hw _ (List.mem_of_getElem? (i := 68) rfl)) (hw _ (List.mem_of_getElem? (i := 67) rfl)) (hw _ (List.mem_of_getElem? (i := 69) rfl)) (hw _ (List.mem_of_getElem? (i := 32) rfl)) (by decide) (b := b60) (argsL := []) (rest := []) (rm9 l Z a0 hw b60 .null rfl T60.heap n0 Z60 f60_4) e66 f60_0 rfl (by rw [hml]; rfl) pd___Lcom_example_seatwright_seatwright_engine_Bucket_ rfl (hb hby at_193) 0 (Nat.le_refl _) (by decide) (by decide) (by decide) (by decide) ?_
        intro v67 T67 L67 X67 hQ67
        obtain ⟨hv67, N67', e67⟩ := hQ67
        subst hv67
        have N67 := Fr.app N66 N67'
        show Go pP eE below _ (T67.setTop (mkF m 196 #[.val (.int p0), .val (.int p1), .val (.int p2), .val (.int p3), .val (.int ((p0 &&& (255 : Int32))).toUInt32.toUInt16.toUInt32.toInt32), .val (.int (((XT.ushr p0 (8 : Int32)) &&& (255 : Int32))).toUInt32.toUInt16.toUInt32.toInt32), .val (.int (p3 &&& (3 : Int32))), .val (.ref a42), .val (.int (0 : Int32)), .val (.ref a53), .val (.ref b60), .unset, .unset] [.null]))
        refine Go.st (S' := T67.setTop (mkF m 199 #[.val (.int p0), .val (.int p1), .val (.int p2), .val (.int p3), .val (.int ((p0 &&& (255 : Int32))).toUInt32.toUInt16.toUInt32.toInt32), .val (.int (((XT.ushr p0 (8 : Int32)) &&& (255 : Int32))).toUInt32.toUInt16.toUInt32.toInt32), .val (.int (p3 &&& (3 : Int32))), .val (.ref a42), .val (.int (0 : Int32)), .val (.ref a53), .val (.ref b60), .unset, .unset] [])) (fun t kt => XT.ifnonnullNo X67.here hx rfl (hb hby at_196) rfl kt) ?_
        refine Go.st (S' := T67.setTop (mkF m 200 #[.val (.int p0), .val (.int p1), .val (.int p2), .val (.int p3), .val (.int ((p0 &&& (255 : Int32))).toUInt32.toUInt16.toUInt32.toInt32), .val (.int (((XT.ushr p0 (8 : Int32)) &&& (255 : Int32))).toUInt32.toUInt16.toUInt32.toInt32), .val (.int (p3 &&& (3 : Int32))), .val (.ref a42), .val (.int (0 : Int32)), .val (.ref a53), .val (.ref b60), .unset, .unset] [(.int (1 : Int32))])) (fun t kt => XS.iconst X67.here hx rfl (hb hby at_199) kt) ?_
        refine Go.st (S' := T67.setTop (mkF m 204 #[.val (.int p0), .val (.int p1), .val (.int p2), .val (.int p3), .val (.int ((p0 &&& (255 : Int32))).toUInt32.toUInt16.toUInt32.toInt32), .val (.int (((XT.ushr p0 (8 : Int32)) &&& (255 : Int32))).toUInt32.toUInt16.toUInt32.toInt32), .val (.int (p3 &&& (3 : Int32))), .val (.ref a42), .val (.int (0 : Int32)), .val (.ref a53), .val (.ref b60), .unset, .unset] [(.int (1 : Int32))])) (fun t kt => XS.goto X67.here hx rfl (pc0 := 200) (pc' := 204) rfl (hb hby at_200) (by decide) (by decide) kt) ?_
        refine Go.st (S' := T67.setTop (mkF m 206 #[.val (.int p0), .val (.int p1), .val (.int p2), .val (.int p3), .val (.int ((p0 &&& (255 : Int32))).toUInt32.toUInt16.toUInt32.toInt32), .val (.int (((XT.ushr p0 (8 : Int32)) &&& (255 : Int32))).toUInt32.toUInt16.toUInt32.toInt32), .val (.int (p3 &&& (3 : Int32))), .val (.ref a42), .val (.int (0 : Int32)), .val (.ref a53), .val (.ref b60), .val (.int (1 : Int32)), .unset] [])) (fun t kt => XS.istore X67.here hx rfl (hb hby at_204) rfl rfl kt) ?_
        refine Go.st (S' := T67.setTop (mkF m 208 #[.val (.int p0), .val (.int p1), .val (.int p2), .val (.int p3), .val (.int ((p0 &&& (255 : Int32))).toUInt32.toUInt16.toUInt32.toInt32), .val (.int (((XT.ushr p0 (8 : Int32)) &&& (255 : Int32))).toUInt32.toUInt16.toUInt32.toInt32), .val (.int (p3 &&& (3 : Int32))), .val (.ref a42), .val (.int (0 : Int32)), .val (.ref a53), .val (.ref b60), .val (.int (1 : Int32)), .unset] [(.ref a53)])) (fun t kt => XS.aload X67.here hx rfl (hb hby at_206) rfl rfl kt) ?_
        have f68 := (f55_0.keep K60')
        have f69 := (f55_1.keep K60' nin0)
        have f70 := (f55_2.keep K60' nin0)
        have f71 := (f55_3.keep K60' nin0)
        have f72 := (f55_4.keep K60' nin0)
        refine Go.virt X67 hx hZ hown (hw _ (List.mem_of_getElem? (i := 72) rfl)) (hw _ (List.mem_of_getElem? (i := 73) rfl)) (notFace_of_selects (mvT (args := #[]) hZ (hw _ (List.mem_of_getElem? (i := 75) rfl)))) (hw _ (List.mem_of_getElem? (i := 75) rfl)) (hw _ (List.mem_of_getElem? (i := 74) rfl)) (hw _ (List.mem_of_getElem? (i := 76) rfl)) (hw _ (List.mem_of_getElem? (i := 32) rfl)) (by decide) (b := a53) (argsL := []) (rest := []) (rm4 l Z a0 hw a53 (.ref a42) rfl p1 p2 .null rfl T60.heap n0 Z60 f68 (Nat.le_trans Z50 (Nat.le_of_eq g53.symm)) f69 f70 f71 f72) e67 f68 rfl (by rw [hml]; rfl) pd___V rfl (hb hby at_208) 0 (Nat.le_refl _) (by decide) (by decide) (by decide) (by decide) ?_
        intro v73 T73 L73 X73 hQ73
        have f74 := (f61.keep K60')
        have f75 := (f62.keep K60' nin0)
        have f76 := (f63.keep K60' nin0)
        have f77 := (Safe.keep K60' all0 C55.1 (Safe.keep K55' (allS f59 all0) C53.1 f59))
        obtain ⟨hv73, N73', K73', f73_0, f73_1, f73_2, f73_3, f73_4⟩ := hQ73
        subst hv73
        have N73 := Fr.app N67 N73'
        have Z73 : n0 ≤ T73.heap.size := Nat.le_trans Z60 K73'.1
        have eh73 : T73.heap = T73.heap := rfl
        have C73 := CHr.trans C60 (CHr.keep K73' (allS f77 all0) C60.1)
        have hk := Nat.le_trans hk K73'.1
        show Go pP eE below _ (T73.setTop (mkF m 211 #[.val (.int p0), .val (.int p1), .val (.int p2), .val (.int p3), .val (.int ((p0 &&& (255 : Int32))).toUInt32.toUInt16.toUInt32.toInt32), .val (.int (((XT.ushr p0 (8 : Int32)) &&& (255 : Int32))).toUInt32.toUInt16.toUInt32.toInt32), .val (.int (p3 &&& (3 : Int32))), .val (.ref a42), .val (.int (0 : Int32)), .val (.ref a53), .val (.ref b60), .val (.int (1 : Int32)), .unset] []))
        refine Go.st (S' := T73.setTop (mkF m 213 #[.val (.int p0), .val (.int p1), .val (.int p2), .val (.int p3), .val (.int ((p0 &&& (255 : Int32))).toUInt32.toUInt16.toUInt32.toInt32), .val (.int (((XT.ushr p0 (8 : Int32)) &&& (255 : Int32))).toUInt32.toUInt16.toUInt32.toInt32), .val (.int (p3 &&& (3 : Int32))), .val (.ref a42), .val (.int (0 : Int32)), .val (.ref a53), .val (.ref b60), .val (.int (1 : Int32)), .unset] [(.ref b60)])) (fun t kt => XS.aload X73.here hx rfl (hb hby at_211) rfl rfl kt) ?_
        have f78 := (f60_3.keep K73' (ninS (Ne.symm (Nat.ne_of_lt (Nat.lt_of_lt_of_le f55_0.lt y60_0))) nin0))
        have f80 := (f60_0.keep K73')
        refine Go.virt X73 hx hZ hown (hw _ (List.mem_of_getElem? (i := 60) rfl)) (hw _ (List.mem_of_getElem? (i := 61) rfl)) (notFace_of_selects (mvT (args := #[]) hZ (hw _ (List.mem_of_getElem? (i := 63) rfl)))) (hw _ (List.mem_of_getElem? (i := 63) rfl)) (hw _ (List.mem_of_getElem? (i := 62) rfl)) (hw _ (List.mem_of_getElem? (i := 64) rfl)) (hw _ (List.mem_of_getElem? (i := 32) rfl)) (by decide) (b := b60) (argsL := []) (rest := []) (rm8 l Z a0 hw b60 p2 T73.heap n0 Z73 f78) eh73 f80 rfl (by rw [hml]; rfl) pd___I rfl (hb hby at_213) 0 (Nat.le_refl _) (by decide) (by decide) (by decide) (by decide) ?_
        intro v79 T79 L79 X79 hQ79
        obtain ⟨hv79, N79', e79⟩ := hQ79
        subst hv79
        have N79 := Fr.app N73 N79'
        show Go pP eE below _ (T79.setTop (mkF m 216 #[.val (.int p0), .val (.int p1), .val (.int p2), .val (.int p3), .val (.int ((p0 &&& (255 : Int32))).toUInt32.toUInt16.toUInt32.toInt32), .val (.int (((XT.ushr p0 (8 : Int32)) &&& (255 : Int32))).toUInt32.toUInt16.toUInt32.toInt32), .val (.int (p3 &&& (3 : Int32))), .val (.ref a42), .val (.int (0 : Int32)), .val (.ref a53), .val (.ref b60), .val (.int (1 : Int32)), .unset] [(.int p2)]))
        refine Go.st (S' := T79.setTop (mkF m 217 #[.val (.int p0), .val (.int p1), .val (.int p2), .val (.int p3), .val (.int ((p0 &&& (255 : Int32))).toUInt32.toUInt16.toUInt32.toInt32), .val (.int (((XT.ushr p0 (8 : Int32)) &&& (255 : Int32))).toUInt32.toUInt16.toUInt32.toInt32), .val (.int (p3 &&& (3 : Int32))), .val (.ref a42), .val (.int (0 : Int32)), .val (.ref a53), .val (.ref b60), .val (.int (1 : Int32)), .unset] [(.int p2), (.int p2)])) (fun t kt => XS.iloadN X79.here hx rfl (hb hby at_216) rfl kt) ?_
        refine Go.st (S' := T79.setTop (mkF m 220 #[.val (.int p0), .val (.int p1), .val (.int p2), .val (.int p3), .val (.int ((p0 &&& (255 : Int32))).toUInt32.toUInt16.toUInt32.toInt32), .val (.int (((XT.ushr p0 (8 : Int32)) &&& (255 : Int32))).toUInt32.toUInt16.toUInt32.toInt32), .val (.int (p3 &&& (3 : Int32))), .val (.ref a42), .val (.int (0 : Int32)), .val (.ref a53), .val (.ref b60), .val (.int (1 : Int32)), .unset] [])) (fun t kt => XS.icmpNo X79.here hx rfl (hb hby at_217) rfl (XT.ii_ne_f rfl) kt) ?_
        refine Go.st (S' := T79.setTop (mkF m 221 #[.val (.int p0), .val (.int p1), .val (.int p2), .val (.int p3), .val (.int ((p0 &&& (255 : Int32))).toUInt32.toUInt16.toUInt32.toInt32), .val (.int (((XT.ushr p0 (8 : Int32)) &&& (255 : Int32))).toUInt32.toUInt16.toUInt32.toInt32), .val (.int (p3 &&& (3 : Int32))), .val (.ref a42), .val (.int (0 : Int32)), .val (.ref a53), .val (.ref b60), .val (.int (1 : Int32)), .unset] [(.int (1 : Int32))])) (fun t kt => XS.iconst X79.here hx rfl (hb hby at_220) kt) ?_
        refine Go.st (S' := T79.setTop (mkF m 225 #[.val (.int p0), .val (.int p1), .val (.int p2), .val (.int p3), .val (.int ((p0 &&& (255 : Int32))).toUInt32.toUInt16.toUInt32.toInt32), .val (.int (((XT.ushr p0 (8 : Int32)) &&& (255 : Int32))).toUInt32.toUInt16.toUInt32.toInt32), .val (.int (p3 &&& (3 : Int32))), .val (.ref a42), .val (.int (0 : Int32)), .val (.ref a53), .val (.ref b60), .val (.int (1 : Int32)), .unset] [(.int (1 : Int32))])) (fun t kt => XS.goto X79.here hx rfl (pc0 := 221) (pc' := 225) rfl (hb hby at_221) (by decide) (by decide) kt) ?_
        refine Go.st (S' := T79.setTop (mkF m 227 #[.val (.int p0), .val (.int p1), .val (.int p2), .val (.int p3), .val (.int ((p0 &&& (255 : Int32))).toUInt32.toUInt16.toUInt32.toInt32), .val (.int (((XT.ushr p0 (8 : Int32)) &&& (255 : Int32))).toUInt32.toUInt16.toUInt32.toInt32), .val (.int (p3 &&& (3 : Int32))), .val (.ref a42), .val (.int (0 : Int32)), .val (.ref a53), .val (.ref b60), .val (.int (1 : Int32)), .val (.int (1 : Int32))] [])) (fun t kt => XS.istore X79.here hx rfl (hb hby at_225) rfl rfl kt) ?_
        refine Go.st (S' := T79.setTop (mkF m 229 #[.val (.int p0), .val (.int p1), .val (.int p2), .val (.int p3), .val (.int ((p0 &&& (255 : Int32))).toUInt32.toUInt16.toUInt32.toInt32), .val (.int (((XT.ushr p0 (8 : Int32)) &&& (255 : Int32))).toUInt32.toUInt16.toUInt32.toInt32), .val (.int (p3 &&& (3 : Int32))), .val (.ref a42), .val (.int (0 : Int32)), .val (.ref a53), .val (.ref b60), .val (.int (1 : Int32)), .val (.int (1 : Int32))] [(.int (1 : Int32))])) (fun t kt => XS.iload X79.here hx rfl (hb hby at_227) rfl kt) ?_
        refine Go.st (S' := T79.setTop (mkF m 232 #[.val (.int p0), .val (.int p1), .val (.int p2), .val (.int p3), .val (.int ((p0 &&& (255 : Int32))).toUInt32.toUInt16.toUInt32.toInt32), .val (.int (((XT.ushr p0 (8 : Int32)) &&& (255 : Int32))).toUInt32.toUInt16.toUInt32.toInt32), .val (.int (p3 &&& (3 : Int32))), .val (.ref a42), .val (.int (0 : Int32)), .val (.ref a53), .val (.ref b60), .val (.int (1 : Int32)), .val (.int (1 : Int32))] [])) (fun t kt => XS.ifNo X79.here hx rfl (hb hby at_229) rfl (XT.i0_eq_f (by decide)) kt) ?_
        refine Go.st (S' := T79.setTop (mkF m 234 #[.val (.int p0), .val (.int p1), .val (.int p2), .val (.int p3), .val (.int ((p0 &&& (255 : Int32))).toUInt32.toUInt16.toUInt32.toInt32), .val (.int (((XT.ushr p0 (8 : Int32)) &&& (255 : Int32))).toUInt32.toUInt16.toUInt32.toInt32), .val (.int (p3 &&& (3 : Int32))), .val (.ref a42), .val (.int (0 : Int32)), .val (.ref a53), .val (.ref b60), .val (.int (1 : Int32)), .val (.int (1 : Int32))] [(.int (1 : Int32))])) (fun t kt => XS.iload X79.here hx rfl (hb hby at_232) rfl kt) ?_
        refine Go.st (S' := T79.setTop (mkF m 237 #[.val (.int p0), .val (.int p1), .val (.int p2), .val (.int p3), .val (.int ((p0 &&& (255 : Int32))).toUInt32.toUInt16.toUInt32.toInt32), .val (.int (((XT.ushr p0 (8 : Int32)) &&& (255 : Int32))).toUInt32.toUInt16.toUInt32.toInt32), .val (.int (p3 &&& (3 : Int32))), .val (.ref a42), .val (.int (0 : Int32)), .val (.ref a53), .val (.ref b60), .val (.int (1 : Int32)), .val (.int (1 : Int32))] [])) (fun t kt => XS.ifNo X79.here hx rfl (hb hby at_234) rfl (XT.i0_eq_f (by decide)) kt) ?_
        refine Go.st (S' := T79.setTop (mkF m 238 #[.val (.int p0), .val (.int p1), .val (.int p2), .val (.int p3), .val (.int ((p0 &&& (255 : Int32))).toUInt32.toUInt16.toUInt32.toInt32), .val (.int (((XT.ushr p0 (8 : Int32)) &&& (255 : Int32))).toUInt32.toUInt16.toUInt32.toInt32), .val (.int (p3 &&& (3 : Int32))), .val (.ref a42), .val (.int (0 : Int32)), .val (.ref a53), .val (.ref b60), .val (.int (1 : Int32)), .val (.int (1 : Int32))] [(.int (1 : Int32))])) (fun t kt => XS.iconst X79.here hx rfl (hb hby at_237) kt) ?_
        refine Go.st (S' := T79.setTop (mkF m 242 #[.val (.int p0), .val (.int p1), .val (.int p2), .val (.int p3), .val (.int ((p0 &&& (255 : Int32))).toUInt32.toUInt16.toUInt32.toInt32), .val (.int (((XT.ushr p0 (8 : Int32)) &&& (255 : Int32))).toUInt32.toUInt16.toUInt32.toInt32), .val (.int (p3 &&& (3 : Int32))), .val (.ref a42), .val (.int (0 : Int32)), .val (.ref a53), .val (.ref b60), .val (.int (1 : Int32)), .val (.int (1 : Int32))] [(.int (1 : Int32))])) (fun t kt => XS.goto X79.here hx rfl (pc0 := 238) (pc' := 242) rfl (hb hby at_238) (by decide) (by decide) kt) ?_
        exact retw_b X79 hZ hEL e79 C73 hS hk hx hlk hret (hb hby at_242) (by decide) (by decide) (⟨rfl, N79⟩)
      · refine Go.st (S' := T50.setTop (mkF m 110 #[.val (.int p0), .val (.int p1), .val (.int p2), .val (.int p3), .val (.int ((p0 &&& (255 : Int32))).toUInt32.toUInt16.toUInt32.toInt32), .val (.int (((XT.ushr p0 (8 : Int32)) &&& (255 : Int32))).toUInt32.toUInt16.toUInt32.toInt32), .val (.int (p3 &&& (3 : Int32))), .val (.ref a42), .unset, .unset, .unset, .unset, .unset] [])) (fun t kt => XS.ifNo X50.here hx rfl (hb hby at_107) rfl (XT.i0_eq_f hc107_52) kt) ?_
        refine Go.st (S' := T50.setTop (mkF m 111 #[.val (.int p0), .val (.int p1), .val (.int p2), .val (.int p3), .val (.int ((p0 &&& (255 : Int32))).toUInt32.toUInt16.toUInt32.toInt32), .val (.int (((XT.ushr p0 (8 : Int32)) &&& (255 : Int32))).toUInt32.toUInt16.toUInt32.toInt32), .val (.int (p3 &&& (3 : Int32))), .val (.ref a42), .unset, .unset, .unset, .unset, .unset] [(.int (1 : Int32))])) (fun t kt => XS.iconst X50.here hx rfl (hb hby at_110) kt) ?_
        refine Go.st (S' := T50.setTop (mkF m 115 #[.val (.int p0), .val (.int p1), .val (.int p2), .val (.int p3), .val (.int ((p0 &&& (255 : Int32))).toUInt32.toUInt16.toUInt32.toInt32), .val (.int (((XT.ushr p0 (8 : Int32)) &&& (255 : Int32))).toUInt32.toUInt16.toUInt32.toInt32), .val (.int (p3 &&& (3 : Int32))), .val (.ref a42), .unset, .unset, .unset, .unset, .unset] [(.int (1 : Int32))])) (fun t kt => XS.goto X50.here hx rfl (pc0 := 111) (pc' := 115) rfl (hb hby at_111) (by decide) (by decide) kt) ?_
        refine Go.st (S' := T50.setTop (mkF m 117 #[.val (.int p0), .val (.int p1), .val (.int p2), .val (.int p3), .val (.int ((p0 &&& (255 : Int32))).toUInt32.toUInt16.toUInt32.toInt32), .val (.int (((XT.ushr p0 (8 : Int32)) &&& (255 : Int32))).toUInt32.toUInt16.toUInt32.toInt32), .val (.int (p3 &&& (3 : Int32))), .val (.ref a42), .val (.int (1 : Int32)), .unset, .unset, .unset, .unset] [])) (fun t kt => XS.istore X50.here hx rfl (hb hby at_115) rfl rfl kt) ?_
        obtain ⟨T81, h81, X81, e81, E81, A81, D81, -, st81⟩ := newO X50 hx hZ hown (hw _ (List.mem_of_getElem? (i := 30) rfl)) (hw _ (List.mem_of_getElem? (i := 31) rfl)) (hw _ (List.mem_of_getElem? (i := 32) rfl)) eh50 (g := (mkF m 117 #[.val (.int p0), .val (.int p1), .val (.int p2), .val (.int p3), .val (.int ((p0 &&& (255 : Int32))).toUInt32.toUInt16.toUInt32.toInt32), .val (.int (((XT.ushr p0 (8 : Int32)) &&& (255 : Int32))).toUInt32.toUInt16.toUInt32.toInt32), .val (.int (p3 &&& (3 : Int32))), .val (.ref a42), .val (.int (1 : Int32)), .unset, .unset, .unset, .unset] [])) rfl (hb hby at_117) (by decide) (by decide)
        obtain ⟨a81, g81⟩ : ∃ z, z = T50.heap.size := ⟨_, rfl⟩
        rw [← g81] at A81 D81 st81
        have Z81 : n0 ≤ h81.size := Nat.le_trans Z50 E81.1
        have f82 := (V44.keep K50' (ninS (Ne.symm (Nat.ne_of_lt (by rw [g43]; exact A42.lt))) nin0))
        have S81 : Safe Z own_EL sS.vm T50.heap a81 := Safe.new (Nat.le_of_eq g81.symm)
        have C81 := CHr.trans C50 (CHr.ext E81 C50.1)
        have hk := Nat.le_trans hk E81.1
        have F81_unit : Fld Z h81 a81 "com/example/seatwright/seatwright/engine/Bucket" "unit" "Ljava/lang/String;" .null := D81 (Or.inr (hw _ (List.mem_of_getElem? (i := 38) rfl))) (ty := (.object "java/lang/String")) (by decide)
        have F81_size : Fld Z h81 a81 "com/example/seatwright/seatwright/engine/Bucket" "size" "I" (.int (0 : Int32)) := D81 (Or.inr (hw _ (List.mem_of_getElem? (i := 40) rfl))) (ty := .int) (by decide)
        have F81_inUse : Fld Z h81 a81 "com/example/seatwright/seatwright/engine/Bucket" "inUse" "I" (.int (0 : Int32)) := D81 (Or.inl (hw _ (List.mem_of_getElem? (i := 42) rfl))) (ty := .int) (by decide)
        have F81_above : Fld Z h81 a81 "com/example/seatwright/seatwright/engine/Bucket" "above" "Lcom/example/seatwright/seatwright/engine/Bucket;" .null := D81 (Or.inl (hw _ (List.mem_of_getElem? (i := 71) rfl))) (ty := (.object "com/example/seatwright/seatwright/engine/Bucket")) (by decide)
        refine Go.st (S' := T81.setTop (mkF m 120 #[.val (.int p0), .val (.int p1), .val (.int p2), .val (.int p3), .val (.int ((p0 &&& (255 : Int32))).toUInt32.toUInt16.toUInt32.toInt32), .val (.int (((XT.ushr p0 (8 : Int32)) &&& (255 : Int32))).toUInt32.toUInt16.toUInt32.toInt32), .val (.int (p3 &&& (3 : Int32))), .val (.ref a42), .val (.int (1 : Int32)), .unset, .unset, .unset, .unset] [(.ref a81)])) (fun t kt => st81 t kt) ?_
        refine Go.st (S' := T81.setTop (mkF m 121 #[.val (.int p0), .val (.int p1), .val (.int p2), .val (.int p3), .val (.int ((p0 &&& (255 : Int32))).toUInt32.toUInt16.toUInt32.toInt32), .val (.int (((XT.ushr p0 (8 : Int32)) &&& (255 : Int32))).toUInt32.toUInt16.toUInt32.toInt32), .val (.int (p3 &&& (3 : Int32))), .val (.ref a42), .val (.int (1 : Int32)), .unset, .unset, .unset, .unset] [(.ref a81), (.ref a81)])) (fun t kt => XS.dup X81.here hx rfl (hb hby at_120) rfl rfl kt) ?_
        refine Go.st (S' := T81.setTop (mkF m 123 #[.val (.int p0), .val (.int p1), .val (.int p2), .val (.int p3), .val (.int ((p0 &&& (255 : Int32))).toUInt32.toUInt16.toUInt32.toInt32), .val (.int (((XT.ushr p0 (8 : Int32)) &&& (255 : Int32))).toUInt32.toUInt16.toUInt32.toInt32), .val (.int (p3 &&& (3 : Int32))), .val (.ref a42), .val (.int (1 : Int32)), .unset, .unset, .unset, .unset] [(.ref a42), (.ref a81), (.ref a81)])) (fun t kt => XS.aload X81.here hx rfl (hb hby at_121) rfl rfl kt) ?_
        refine Go.st (S' := T81.setTop (mkF m 124 #[.val (.int p0), .val (.int p1), .val (.int p2), .val (.int p3), .val (.int ((p0 &&& (255 : Int32))).toUInt32.toUInt16.toUInt32.toInt32), .val (.int (((XT.ushr p0 (8 : Int32)) &&& (255 : Int32))).toUInt32.toUInt16.toUInt32.toInt32), .val (.int (p3 &&& (3 : Int32))), .val (.ref a42), .val (.int (1 : Int32)), .unset, .unset, .unset, .unset] [(.int p1), (.ref a42), (.ref a81), (.ref a81)])) (fun t kt => XS.iloadN X81.here hx rfl (hb hby at_123) rfl kt) ?_
        refine Go.st (S' := T81.setTop (mkF m 125 #[.val (.int p0), .val (.int p1), .val (.int p2), .val (.int p3), .val (.int ((p0 &&& (255 : Int32))).toUInt32.toUInt16.toUInt32.toInt32), .val (.int (((XT.ushr p0 (8 : Int32)) &&& (255 : Int32))).toUInt32.toUInt16.toUInt32.toInt32), .val (.int (p3 &&& (3 : Int32))), .val (.ref a42), .val (.int (1 : Int32)), .unset, .unset, .unset, .unset] [(.int p2), (.int p1), (.ref a42), (.ref a81), (.ref a81)])) (fun t kt => XS.iloadN X81.here hx rfl (hb hby at_124) rfl kt) ?_
        refine Go.init X81 hx hZ rfl hown (hw _ (List.mem_of_getElem? (i := 33) rfl)) (hw _ (List.mem_of_getElem? (i := 34) rfl)) (hw _ (List.mem_of_getElem? (i := 35) rfl)) (hw _ (List.mem_of_getElem? (i := 32) rfl)) (by decide) (b := a81) (argsL := [(.ref a42), (.int p1), (.int p2)]) (rest := [(.ref a81)]) (rm2 l Z a0 hw a81 (.ref a42) rfl p1 p2 h81 n0 Z81 A81 (Nat.le_trans Z50 (Nat.le_of_eq g81.symm)) F81_unit F81_size F81_inUse F81_above) e81 rfl (by rw [hml]; rfl) pd__Ljava_lang_String_II_V rfl (hb hby at_125) 1 (Nat.le_refl _) (by decide) (by decide) (by decide) (by decide) ?_
        intro v83 T83 L83 X83 hQ83
        have f84 := (f50_0.ext E81)
        have f85 := (f82.ext E81)
        have f86 := (f50_3.ext E81)
        have f87 := (Safe.ext E81 C50.1 S81)
        obtain ⟨hv83, N83', K83', f83_0, f83_1, f83_2, f83_3, f83_4⟩ := hQ83
        subst hv83
        have N83 := Fr.app N50 N83'
        have Z83 : n0 ≤ T83.heap.size := Nat.le_trans Z81 K83'.1
        have eh83 : T83.heap = T83.heap := rfl
        have C83 := CHr.trans C81 (CHr.keep K83' (allS f87 all0) C81.1)
        have hk := Nat.le_trans hk K83'.1
        show Go pP eE below _ (T83.setTop (mkF m 128 #[.val (.int p0), .val (.int p1), .val (.int p2), .val (.int p3), .val (.int ((p0 &&& (255 : Int32))).toUInt32.toUInt16.toUInt32.toInt32), .val (.int (((XT.ushr p0 (8 : Int32)) &&& (255 : Int32))).toUInt32.toUInt16.toUInt32.toInt32), .val (.int (p3 &&& (3 : Int32))), .val (.ref a42), .val (.int (1 : Int32)), .unset, .unset, .unset, .unset] [(.ref a81)]))
        refine Go.st (S' := T83.setTop (mkF m 130 #[.val (.int p0), .val (.int p1), .val (.int p2), .val (.int p3), .val (.int ((p0 &&& (255 : Int32))).toUInt32.toUInt16.toUInt32.toInt32), .val (.int (((XT.ushr p0 (8 : Int32)) &&& (255 : Int32))).toUInt32.toUInt16.toUInt32.toInt32), .val (.int (p3 &&& (3 : Int32))), .val (.ref a42), .val (.int (1 : Int32)), .val (.ref a81), .unset, .unset, .unset] [])) (fun t kt => XS.astore X83.here hx rfl (hb hby at_128) rfl rfl rfl kt) ?_
        refine Go.st (S' := T83.setTop (mkF m 132 #[.val (.int p0), .val (.int p1), .val (.int p2), .val (.int p3), .val (.int ((p0 &&& (255 : Int32))).toUInt32.toUInt16.toUInt32.toInt32), .val (.int (((XT.ushr p0 (8 : Int32)) &&& (255 : Int32))).toUInt32.toUInt16.toUInt32.toInt32), .val (.int (p3 &&& (3 : Int32))), .val (.ref a42), .val (.int (1 : Int32)), .val (.ref a81), .unset, .unset, .unset] [(.int (1 : Int32))])) (fun t kt => XS.iload X83.here hx rfl (hb hby at_130) rfl kt) ?_
        refine Go.st (S' := T83.setTop (mkF m 135 #[.val (.int p0), .val (.int p1), .val (.int p2), .val (.int p3), .val (.int ((p0 &&& (255 : Int32))).toUInt32.toUInt16.toUInt32.toInt32), .val (.int (((XT.ushr p0 (8 : Int32)) &&& (255 : Int32))).toUInt32.toUInt16.toUInt32.toInt32), .val (.int (p3 &&& (3 : Int32))), .val (.ref a42), .val (.int (1 : Int32)), .val (.ref a81), .unset, .unset, .unset] [])) (fun t kt => XS.ifNo X83.here hx rfl (hb hby at_132) rfl (XT.i0_eq_f (by decide)) kt) ?_
        refine Go.st (S' := T83.setTop (mkF m 137 #[.val (.int p0), .val (.int p1), .val (.int p2), .val (.int p3), .val (.int ((p0 &&& (255 : Int32))).toUInt32.toUInt16.toUInt32.toInt32), .val (.int (((XT.ushr p0 (8 : Int32)) &&& (255 : Int32))).toUInt32.toUInt16.toUInt32.toInt32), .val (.int (p3 &&& (3 : Int32))), .val (.ref a42), .val (.int (1 : Int32)), .val (.ref a81), .unset, .unset, .unset] [(.ref a81)])) (fun t kt => XS.aload X83.here hx rfl (hb hby at_135) rfl rfl kt) ?_
        refine Go.st (S' := T83.setTop (mkF m 139 #[.val (.int p0), .val (.int p1), .val (.int p2), .val (.int p3), .val (.int ((p0 &&& (255 : Int32))).toUInt32.toUInt16.toUInt32.toInt32), .val (.int (((XT.ushr p0 (8 : Int32)) &&& (255 : Int32))).toUInt32.toUInt16.toUInt32.toInt32), .val (.int (p3 &&& (3 : Int32))), .val (.ref a42), .val (.int (1 : Int32)), .val (.ref a81), .unset, .unset, .unset] [(.ref a81), (.ref a81)])) (fun t kt => XS.aload X83.here hx rfl (hb hby at_137) rfl rfl kt) ?_
        refine Go.virt X83 hx hZ hown (hw _ (List.mem_of_getElem? (i := 77) rfl)) (hw _ (List.mem_of_getElem? (i := 78) rfl)) (notFace_of_selects (mvT (args := #[]) hZ (hw _ (List.mem_of_getElem? (i := 80) rfl)))) (hw _ (List.mem_of_getElem? (i := 80) rfl)) (hw _ (List.mem_of_getElem? (i := 79) rfl)) (hw _ (List.mem_of_getElem? (i := 81) rfl)) (hw _ (List.mem_of_getElem? (i := 32) rfl)) (by decide) (b := a81) (argsL := [(.ref a81)]) (rest := []) (rm5 l Z a0 hw a81 (.ref a42) rfl p1 p2 .null rfl a81 T83.heap n0 Z83 f83_0 (Nat.le_trans Z50 (Nat.le_of_eq g81.symm)) f83_1 f83_2 f83_3 f83_4) eh83 f83_0 rfl (by rw [hml]; rfl) pd__Lcom_example_seatwright_seatwright_engine_Bucket__V rfl (hb hby at_139) 0 (Nat.le_refl _) (by decide) (by decide) (by decide) (by decide) ?_
        intro v88 T88 L88 X88 hQ88
        have f89 := (f84.keep K83')
        have f90 := (f85.keep K83' (ninS (Nat.ne_of_lt (by rw [g81]; exact f82.lt)) nin0))
        have f91 := (f86.keep K83' (ninS (Nat.ne_of_lt (by rw [g81]; exact f50_3.lt)) nin0))
        have f92 := (Safe.keep K83' (allS f87 all0) C81.1 f87)
        obtain ⟨hv88, N88', K88', f88_0, f88_1, f88_2, f88_3, f88_4⟩ := hQ88
        subst hv88
        have N88 := Fr.app N83 N88'
        have Z88 : n0 ≤ T88.heap.size := Nat.le_trans Z83 K88'.1
        have eh88 : T88.heap = T88.heap := rfl
        have C88 := CHr.trans C83 (CHr.keep K88' (allS f92 all0) C83.1)
        have hk := Nat.le_trans hk K88'.1
        show Go pP eE below _ (T88.setTop (mkF m 142 #[.val (.int p0), .val (.int p1), .val (.int p2), .val (.int p3), .val (.int ((p0 &&& (255 : Int32))).toUInt32.toUInt16.toUInt32.toInt32), .val (.int (((XT.ushr p0 (8 : Int32)) &&& (255 : Int32))).toUInt32.toUInt16.toUInt32.toInt32), .val (.int (p3 &&& (3 : Int32))), .val (.ref a42), .val (.int (1 : Int32)), .val (.ref a81), .unset, .unset, .unset] []))
        refine Go.st (S' := T88.setTop (mkF m 144 #[.val (.int p0), .val (.int p1), .val (.int p2), .val (.int p3), .val (.int ((p0 &&& (255 : Int32))).toUInt32.toUInt16.toUInt32.toInt32), .val (.int (((XT.ushr p0 (8 : Int32)) &&& (255 : Int32))).toUInt32.toUInt16.toUInt32.toInt32), .val (.int (p3 &&& (3 : Int32))), .val (.ref a42), .val (.int (1 : Int32)), .val (.ref a81), .unset, .unset, .unset] [(.ref a81)])) (fun t kt => XS.aload X88.here hx rfl (hb hby at_142) rfl rfl kt) ?_
        refine Go.virt X88 hx hZ hown (hw _ (List.mem_of_getElem? (i := 43) rfl)) (hw _ (List.mem_of_getElem? (i := 44) rfl)) (notFace_of_selects (mvT (args := #[]) hZ (hw _ (List.mem_of_getElem? (i := 46) rfl)))) (hw _ (List.mem_of_getElem? (i := 46) rfl)) (hw _ (List.mem_of_getElem? (i := 45) rfl)) (hw _ (List.mem_of_getElem? (i := 47) rfl)) (hw _ (List.mem_of_getElem? (i := 32) rfl)) (by decide) (b := a81) (argsL := []) (rest := []) (rm3 l Z a0 hw a81 (.ref a42) rfl p1 p2 (.ref a81) rfl T88.heap n0 Z88 f88_0 (Nat.le_trans Z50 (Nat.le_of_eq g81.symm)) f88_1 f88_2 f88_3 f88_4) eh88 f88_0 rfl (by rw [hml]; rfl) pd___Lcom_example_seatwright_seatwright_engine_Bucket_ rfl (hb hby at_144) 0 (Nat.le_refl _) (by decide) (by decide) (by decide) (by decide) ?_
        intro v93 T93 L93 X93 hQ93
        have f94 := (f89.keep K88')
        have f95 := (f90.keep K88' (ninS (Nat.ne_of_lt (by rw [g81]; exact f82.lt)) nin0))
        have f96 := (f91.keep K88' (ninS (Nat.ne_of_lt (by rw [g81]; exact f50_3.lt)) nin0))
        obtain ⟨b93, hv93, N93', K93', y93_0, u93_0, f93_0, f93_1, f93_2, f93_3, f93_4⟩ := hQ93
        subst hv93
        have N93 := Fr.app N88 N93'
        have Z93 : n0 ≤ T93.heap.size := Nat.le_trans Z88 K93'.1
        have eh93 : T93.heap = T93.heap := rfl
        have C93 := CHr.trans C88 (CHr.keep K93' all0 C88.1)
        have hk := Nat.le_trans hk K93'.1
        show Go pP eE below _ (T93.setTop (mkF m 147 #[.val (.int p0), .val (.int p1), .val (.int p2), .val (.int p3), .val (.int ((p0 &&& (255 : Int32))).toUInt32.toUInt16.toUInt32.toInt32), .val (.int (((XT.ushr p0 (8 : Int32)) &&& (255 : Int32))).toUInt32.toUInt16.toUInt32.toInt32), .val (.int (p3 &&& (3 : Int32))), .val (.ref a42), .val (.int (1 : Int32)), .val (.ref a81), .unset, .unset, .unset] [(.ref b93)]))
        refine Go.st (S' := T93.setTop (mkF m 149 #[.val (.int p0), .val (.int p1), .val (.int p2), .val (.int p3), .val (.int ((p0 &&& (255 : Int32))).toUInt32.toUInt16.toUInt32.toInt32), .val (.int (((XT.ushr p0 (8 : Int32)) &&& (255 : Int32))).toUInt32.toUInt16.toUInt32.toInt32), .val (.int (p3 &&& (3 : Int32))), .val (.ref a42), .val (.int (1 : Int32)), .val (.ref a81), .val (.ref b93), .unset, .unset] [])) (fun t kt => XS.astore X93.here hx rfl (hb hby at_147) rfl rfl rfl kt) ?_
        refine Go.st (S' := T93.setTop (mkF m 151 #[.val (.int p0), .val (.int p1), .val (.int p2), .val (.int p3), .val (.int ((p0 &&& (255 : Int32))).toUInt32.toUInt16.toUInt32.toInt32), .val (.int (((XT.ushr p0 (8 : Int32)) &&& (255 : Int32))).toUInt32.toUInt16.toUInt32.toInt32), .val (.int (p3 &&& (3 : Int32))), .val (.ref a42), .val (.int (1 : Int32)), .val (.ref a81), .val (.ref b93), .unset, .unset] [(.ref b93)])) (fun t kt => XS.aload X93.here hx rfl (hb hby at_149) rfl rfl kt) ?_
        refine Go.st (S' := T93.setTop (mkF m 154 #[.val (.int p0), .val (.int p1), .val (.int p2), .val (.int p3), .val (.int ((p0 &&& (255 : Int32))).toUInt32.toUInt16.toUInt32.toInt32), .val (.int (((XT.ushr p0 (8 : Int32)) &&& (255 : Int32))).toUInt32.toUInt16.toUInt32.toInt32), .val (.int (p3 &&& (3 : Int32))), .val (.ref a42), .val (.int (1 : Int32)), .val (.ref a81), .val (.ref b93), .unset, .unset] [])) (fun t kt => XS.ifnullNo X93.here hx rfl (hb hby at_151) rfl kt) ?_
        refine Go.st (S' := T93.setTop (mkF m 156 #[.val (.int p0), .val (.int p1), .val (.int p2), .val (.int p3), .val (.int ((p0 &&& (255 : Int32))).toUInt32.toUInt16.toUInt32.toInt32), .val (.int (((XT.ushr p0 (8 : Int32)) &&& (255 : Int32))).toUInt32.toUInt16.toUInt32.toInt32), .val (.int (p3 &&& (3 : Int32))), .val (.ref a42), .val (.int (1 : Int32)), .val (.ref a81), .val (.ref b93), .unset, .unset] [(.ref b93)])) (fun t kt => XS.aload X93.here hx rfl (hb hby at_154) rfl rfl kt) ?_
        refine Go.st (S' := T93.setTop (mkF m 158 #[.val (.int p0), .val (.int p1), .val (.int p2), .val (.int p3), .val (.int ((p0 &&& (255 : Int32))).toUInt32.toUInt16.toUInt32.toInt32), .val (.int (((XT.ushr p0 (8 : Int32)) &&& (255 : Int32))).toUInt32.toUInt16.toUInt32.toInt32), .val (.int (p3 &&& (3 : Int32))), .val (.ref a42), .val (.int (1 : Int32)), .val (.ref a81), .val (.ref b93), .unset, .unset] [(.ref a81), (.ref b93)])) (fun t kt => XS.aload X93.here hx rfl (hb hby at_156) rfl rfl kt) ?_
        refine Go.st (S' := T93.setTop (mkF m 163 #[.val (.int p0), .val (.int p1), .val (.int p2), .val (.int p3), .val (.int ((p0 &&& (255 : Int32))).toUInt32.toUInt16.toUInt32.toInt32), .val (.int (((XT.ushr p0 (8 : Int32)) &&& (255 : Int32))).toUInt32.toUInt16.toUInt32.toInt32), .val (.int (p3 &&& (3 : Int32))), .val (.ref a42), .val (.int (1 : Int32)), .val (.ref a81), .val (.ref b93), .unset, .unset] [])) (fun t kt => XT.acmpYes X93.here hx rfl (pc0 := 158) (pc' := 163) rfl (hb hby at_158) rfl rfl rfl (XT.aa_ne_t (fun q => (Ne.symm (Nat.ne_of_lt (Nat.lt_of_lt_of_le f88_0.lt y93_0))) (Value.ref.inj q))) (by decide) (by decide) kt) ?_
        refine Go.st (S' := T93.setTop (mkF m 165 #[.val (.int p0), .val (.int p1), .val (.int p2), .val (.int p3), .val (.int ((p0 &&& (255 : Int32))).toUInt32.toUInt16.toUInt32.toInt32), .val (.int (((XT.ushr p0 (8 : Int32)) &&& (255 : Int32))).toUInt32.toUInt16.toUInt32.toInt32), .val (.int (p3 &&& (3 : Int32))), .val (.ref a42), .val (.int (1 : Int32)), .val (.ref a81), .val (.ref b93), .unset, .unset] [(.ref b93)])) (fun t kt => XS.aload X93.here hx rfl (hb hby at_163) rfl rfl kt) ?_
        refine Go.virt X93 hx hZ hown (hw _ (List.mem_of_getElem? (i := 50) rfl)) (hw _ (List.mem_of_getElem? (i := 51) rfl)) (notFace_of_selects (mvT (args := #[]) hZ (hw _ (List.mem_of_getElem? (i := 53) rfl)))) (hw _ (List.mem_of_getElem? (i := 53) rfl)) (hw _ (List.mem_of_getElem? (i := 52) rfl)) (hw _ (List.mem_of_getElem? (i := 54) rfl)) (hw _ (List.mem_of_getElem? (i := 32) rfl)) (by decide) (b := b93) (argsL := []) (rest := []) (rm6 l Z a0 hw b93 (.ref a42) rfl T93.heap n0 Z93 f93_1) eh93 f93_0 rfl (by rw [hml]; rfl) pd___Ljava_lang_String_ rfl (hb hby at_165) 0 (Nat.le_refl _) (by decide) (by decide) (by decide) (by decide) ?_
        intro v97 T97 L97 X97 hQ97
        obtain ⟨hv97, N97', e97⟩ := hQ97
        subst hv97
        have N97 := Fr.app N93 N97'
        show Go pP eE below _ (T97.setTop (mkF m 168 #[.val (.int p0), .val (.int p1), .val (.int p2), .val (.int p3), .val (.int ((p0 &&& (255 : Int32))).toUInt32.toUInt16.toUInt32.toInt32), .val (.int (((XT.ushr p0 (8 : Int32)) &&& (255 : Int32))).toUInt32.toUInt16.toUInt32.toInt32), .val (.int (p3 &&& (3 : Int32))), .val (.ref a42), .val (.int (1 : Int32)), .val (.ref a81), .val (.ref b93), .unset, .unset] [(.ref a42)]))
        refine Go.st (S' := T97.setTop (mkF m 170 #[.val (.int p0), .val (.int p1), .val (.int p2), .val (.int p3), .val (.int ((p0 &&& (255 : Int32))).toUInt32.toUInt16.toUInt32.toInt32), .val (.int (((XT.ushr p0 (8 : Int32)) &&& (255 : Int32))).toUInt32.toUInt16.toUInt32.toInt32), .val (.int (p3 &&& (3 : Int32))), .val (.ref a42), .val (.int (1 : Int32)), .val (.ref a81), .val (.ref b93), .unset, .unset] [(.ref a42), (.ref a42)])) (fun t kt => XS.aload X97.here hx rfl (hb hby at_168) rfl rfl kt) ?_
        refine Go.st (S' := T97.setTop (mkF m 173 #[.val (.int p0), .val (.int p1), .val (.int p2), .val (.int p3), .val (.int ((p0 &&& (255 : Int32))).toUInt32.toUInt16.toUInt32.toInt32), .val (.int (((XT.ushr p0 (8 : Int32)) &&& (255 : Int32))).toUInt32.toUInt16.toUInt32.toInt32), .val (.int (p3 &&& (3 : Int32))), .val (.ref a42), .val (.int (1 : Int32)), .val (.ref a81), .val (.ref b93), .unset, .unset] [])) (fun t kt => XT.acmpNo X97.here hx rfl (hb hby at_170) rfl rfl rfl (XT.aa_ne_f rfl) kt) ?_
        refine Go.st (S' := T97.setTop (mkF m 175 #[.val (.int p0), .val (.int p1), .val (.int p2), .val (.int p3), .val (.int ((p0 &&& (255 : Int32))).toUInt32.toUInt16.toUInt32.toInt32), .val (.int (((XT.ushr p0 (8 : Int32)) &&& (255 : Int32))).toUInt32.toUInt16.toUInt32.toInt32), .val (.int (p3 &&& (3 : Int32))), .val (.ref a42), .val (.int (1 : Int32)), .val (.ref a81), .val (.ref b93), .unset, .unset] [(.ref b93)])) (fun t kt => XS.aload X97.here hx rfl (hb hby at_173) rfl rfl kt) ?_
        refine Go.virt X97 hx hZ hown (hw _ (List.mem_of_getElem? (i := 55) rfl)) (hw _ (List.mem_of_getElem? (i := 56) rfl)) (notFace_of_selects (mvT (args := #[]) hZ (hw _ (List.mem_of_getElem? (i := 58) rfl)))) (hw _ (List.mem_of_getElem? (i := 58) rfl)) (hw _ (List.mem_of_getElem? (i := 57) rfl)) (hw _ (List.mem_of_getElem? (i := 59) rfl)) (hw _ (List.mem_of_getElem? (i := 32) rfl)) (by decide) (b := b93) (argsL := []) (rest := []) (rm7 l Z a0 hw b93 p1 T93.heap n0 Z93 f93_2) e97 f93_0 rfl (by rw [hml]; rfl) pd___I rfl (hb hby at_175) 0 (Nat.le_refl _) (by decide) (by decide) (by decide) (by decide) ?_
        intro v98 T98 L98 X98 hQ98
        obtain ⟨hv98, N98', e98⟩ := hQ98
        subst hv98
        have N98 := Fr.app N97 N98'
        show Go pP eE below _ (T98.setTop (mkF m 178 #[.val (.int p0), .val (.int p1), .val (.int p2), .val (.int p3), .val (.int ((p0 &&& (255 : Int32))).toUInt32.toUInt16.toUInt32.toInt32), .val (.int (((XT.ushr p0 (8 : Int32)) &&& (255 : Int32))).toUInt32.toUInt16.toUInt32.toInt32), .val (.int (p3 &&& (3 : Int32))), .val (.ref a42), .val (.int (1 : Int32)), .val (.ref a81), .val (.ref b93), .unset, .unset] [(.int p1)]))
        refine Go.st (S' := T98.setTop (mkF m 179 #[.val (.int p0), .val (.int p1), .val (.int p2), .val (.int p3), .val (.int ((p0 &&& (255 : Int32))).toUInt32.toUInt16.toUInt32.toInt32), .val (.int (((XT.ushr p0 (8 : Int32)) &&& (255 : Int32))).toUInt32.toUInt16.toUInt32.toInt32), .val (.int (p3 &&& (3 : Int32))), .val (.ref a42), .val (.int (1 : Int32)), .val (.ref a81), .val (.ref b93), .unset, .unset] [(.int p1), (.int p1)])) (fun t kt => XS.iloadN X98.here hx rfl (hb hby at_178) rfl kt) ?_
        refine Go.st (S' := T98.setTop (mkF m 182 #[.val (.int p0), .val (.int p1), .val (.int p2), .val (.int p3), .val (.int ((p0 &&& (255 : Int32))).toUInt32.toUInt16.toUInt32.toInt32), .val (.int (((XT.ushr p0 (8 : Int32)) &&& (255 : Int32))).toUInt32.toUInt16.toUInt32.toInt32), .val (.int (p3 &&& (3 : Int32))), .val (.ref a42), .val (.int (1 : Int32)), .val (.ref a81), .val (.ref b93), .unset, .unset] [])) (fun t kt => XS.icmpNo X98.here hx rfl (hb hby at_179) rfl (XT.ii_ne_f rfl) kt) ?_
        refine Go.st (S' := T98.setTop (mkF m 184 #[.val (.int p0), .val (.int p1), .val (.int p2), .val (.int p3), .val (.int ((p0 &&& (255 : Int32))).toUInt32.toUInt16.toUInt32.toInt32), .val (.int (((XT.ushr p0 (8 : Int32)) &&& (255 : Int32))).toUInt32.toUInt16.toUInt32.toInt32), .val (.int (p3 &&& (3 : Int32))), .val (.ref a42), .val (.int (1 : Int32)), .val (.ref a81), .val (.ref b93), .unset, .unset] [(.ref b93)])) (fun t kt => XS.aload X98.here hx rfl (hb hby at_182) rfl rfl kt) ?_
        refine Go.virt X98 hx hZ hown (hw _ (List.mem_of_getElem? (i := 60) rfl)) (hw _ (List.mem_of_getElem? (i := 61) rfl)) (notFace_of_selects (mvT (args := #[]) hZ (hw _ (List.mem_of_getElem? (i := 63) rfl)))) (hw _ (List.mem_of_getElem? (i := 63) rfl)) (hw _ (List.mem_of_getElem? (i := 62) rfl)) (hw _ (List.mem_of_getElem? (i := 64) rfl)) (hw _ (List.mem_of_getElem? (i := 32) rfl)) (by decide) (b := b93) (argsL := []) (rest := []) (rm8 l Z a0 hw b93 p2 T93.heap n0 Z93 f93_3) e98 f93_0 rfl (by rw [hml]; rfl) pd___I rfl (hb hby at_184) 0 (Nat.le_refl _) (by decide) (by decide) (by decide) (by decide) ?_
        intro v99 T99 L99 X99 hQ99
        obtain ⟨hv99, N99', e99⟩ := hQ99
        subst hv99
        have N99 := Fr.app N98 N99'
        show Go pP eE below _ (T99.setTop (mkF m 187 #[.val (.int p0), .val (.int p1), .val (.int p2), .val (.int p3), .val (.int ((p0 &&& (255 : Int32))).toUInt32.toUInt16.toUInt32.toInt32), .val (.int (((XT.ushr p0 (8 : Int32)) &&& (255 : Int32))).toUInt32.toUInt16.toUInt32.toInt32), .val (.int (p3 &&& (3 : Int32))), .val (.ref a42), .val (.int (1 : Int32)), .val (.ref a81), .val (.ref b93), .unset, .unset] [(.int p2)]))
        refine Go.st (S' := T99.setTop (mkF m 188 #[.val (.int p0), .val (.int p1), .val (.int p2), .val (.int p3), .val (.int ((p0 &&& (255 : Int32))).toUInt32.toUInt16.toUInt32.toInt32), .val (.int (((XT.ushr p0 (8 : Int32)) &&& (255 : Int32))).toUInt32.toUInt16.toUInt32.toInt32), .val (.int (p3 &&& (3 : Int32))), .val (.ref a42), .val (.int (1 : Int32)), .val (.ref a81), .val (.ref b93), .unset, .unset] [(.int p2), (.int p2)])) (fun t kt => XS.iloadN X99.here hx rfl (hb hby at_187) rfl kt) ?_
        refine Go.st (S' := T99.setTop (mkF m 191 #[.val (.int p0), .val (.int p1), .val (.int p2), .val (.int p3), .val (.int ((p0 &&& (255 : Int32))).toUInt32.toUInt16.toUInt32.toInt32), .val (.int (((XT.ushr p0 (8 : Int32)) &&& (255 : Int32))).toUInt32.toUInt16.toUInt32.toInt32), .val (.int (p3 &&& (3 : Int32))), .val (.ref a42), .val (.int (1 : Int32)), .val (.ref a81), .val (.ref b93), .unset, .unset] [])) (fun t kt => XS.icmpNo X99.here hx rfl (hb hby at_188) rfl (XT.ii_ne_f rfl) kt) ?_
        refine Go.st (S' := T99.setTop (mkF m 193 #[.val (.int p0), .val (.int p1), .val (.int p2), .val (.int p3), .val (.int ((p0 &&& (255 : Int32))).toUInt32.toUInt16.toUInt32.toInt32), .val (.int (((XT.ushr p0 (8 : Int32)) &&& (255 : Int32))).toUInt32.toUInt16.toUInt32.toInt32), .val (.int (p3 &&& (3 : Int32))), .val (.ref a42), .val (.int (1 : Int32)), .val (.ref a81), .val (.ref b93), .unset, .unset] [(.ref b93)])) (fun t kt => XS.aload X99.here hx rfl (hb hby at_191) rfl rfl kt) ?_
        refine Go.virt X99 hx hZ hown (hw _ (List.mem_of_getElem? (i := 65) rfl)) (hw _ (List.mem_of_getElem? (i := 66) rfl)) (notFace_of_selects (mvT (args := #[]) hZ (hw _ (List.mem_of_getElem? (i := 68) rfl)))) (hw _ (List.mem_of_getElem? (i := 68) rfl)) (hw _ (List.mem_of_getElem? (i := 67) rfl)) (hw _ (List.mem_of_getElem? (i := 69) rfl)) (hw _ (List.mem_of_getElem? (i := 32) rfl)) (by decide) (b := b93) (argsL := []) (rest := []) (rm9 l Z a0 hw b93 .null rfl T93.heap n0 Z93 f93_4) e99 f93_0 rfl (by rw [hml]; rfl) pd___Lcom_example_seatwright_seatwright_engine_Bucket_ rfl (hb hby at_193) 0 (Nat.le_refl _) (by decide) (by decide) (by decide) (by decide) ?_
        intro v100 T100 L100 X100 hQ100
        obtain ⟨hv100, N100', e100⟩ := hQ100
        subst hv100
        have N100 := Fr.app N99 N100'
        show Go pP eE below _ (T100.setTop (mkF m 196 #[.val (.int p0), .val (.int p1), .val (.int p2), .val (.int p3), .val (.int ((p0 &&& (255 : Int32))).toUInt32.toUInt16.toUInt32.toInt32), .val (.int (((XT.ushr p0 (8 : Int32)) &&& (255 : Int32))).toUInt32.toUInt16.toUInt32.toInt32), .val (.int (p3 &&& (3 : Int32))), .val (.ref a42), .val (.int (1 : Int32)), .val (.ref a81), .val (.ref b93), .unset, .unset] [.null]))
        refine Go.st (S' := T100.setTop (mkF m 199 #[.val (.int p0), .val (.int p1), .val (.int p2), .val (.int p3), .val (.int ((p0 &&& (255 : Int32))).toUInt32.toUInt16.toUInt32.toInt32), .val (.int (((XT.ushr p0 (8 : Int32)) &&& (255 : Int32))).toUInt32.toUInt16.toUInt32.toInt32), .val (.int (p3 &&& (3 : Int32))), .val (.ref a42), .val (.int (1 : Int32)), .val (.ref a81), .val (.ref b93), .unset, .unset] [])) (fun t kt => XT.ifnonnullNo X100.here hx rfl (hb hby at_196) rfl kt) ?_
        refine Go.st (S' := T100.setTop (mkF m 200 #[.val (.int p0), .val (.int p1), .val (.int p2), .val (.int p3), .val (.int ((p0 &&& (255 : Int32))).toUInt32.toUInt16.toUInt32.toInt32), .val (.int (((XT.ushr p0 (8 : Int32)) &&& (255 : Int32))).toUInt32.toUInt16.toUInt32.toInt32), .val (.int (p3 &&& (3 : Int32))), .val (.ref a42), .val (.int (1 : Int32)), .val (.ref a81), .val (.ref b93), .unset, .unset] [(.int (1 : Int32))])) (fun t kt => XS.iconst X100.here hx rfl (hb hby at_199) kt) ?_
        refine Go.st (S' := T100.setTop (mkF m 204 #[.val (.int p0), .val (.int p1), .val (.int p2), .val (.int p3), .val (.int ((p0 &&& (255 : Int32))).toUInt32.toUInt16.toUInt32.toInt32), .val (.int (((XT.ushr p0 (8 : Int32)) &&& (255 : Int32))).toUInt32.toUInt16.toUInt32.toInt32), .val (.int (p3 &&& (3 : Int32))), .val (.ref a42), .val (.int (1 : Int32)), .val (.ref a81), .val (.ref b93), .unset, .unset] [(.int (1 : Int32))])) (fun t kt => XS.goto X100.here hx rfl (pc0 := 200) (pc' := 204) rfl (hb hby at_200) (by decide) (by decide) kt) ?_
        refine Go.st (S' := T100.setTop (mkF m 206 #[.val (.int p0), .val (.int p1), .val (.int p2), .val (.int p3), .val (.int ((p0 &&& (255 : Int32))).toUInt32.toUInt16.toUInt32.toInt32), .val (.int (((XT.ushr p0 (8 : Int32)) &&& (255 : Int32))).toUInt32.toUInt16.toUInt32.toInt32), .val (.int (p3 &&& (3 : Int32))), .val (.ref a42), .val (.int (1 : Int32)), .val (.ref a81), .val (.ref b93), .val (.int (1 : Int32)), .unset] [])) (fun t kt => XS.istore X100.here hx rfl (hb hby at_204) rfl rfl kt) ?_
        refine Go.st (S' := T100.setTop (mkF m 208 #[.val (.int p0), .val (.int p1), .val (.int p2), .val (.int p3), .val (.int ((p0 &&& (255 : Int32))).toUInt32.toUInt16.toUInt32.toInt32), .val (.int (((XT.ushr p0 (8 : Int32)) &&& (255 : Int32))).toUInt32.toUInt16.toUInt32.toInt32), .val (.int (p3 &&& (3 : Int32))), .val (.ref a42), .val (.int (1 : Int32)), .val (.ref a81), .val (.ref b93), .val (.int (1 : Int32)), .unset] [(.ref a81)])) (fun t kt => XS.aload X100.here hx rfl (hb hby at_206) rfl rfl kt) ?_
        have f101 := (f88_0.keep K93')
        have f102 := (f88_1.keep K93' nin0)
        have f103 := (f88_2.keep K93' nin0)
        have f104 := (f88_3.keep K93' nin0)
        have f105 := (f88_4.keep K93' nin0)
        refine Go.virt X100 hx hZ hown (hw _ (List.mem_of_getElem? (i := 72) rfl)) (hw _ (List.mem_of_getElem? (i := 73) rfl)) (notFace_of_selects (mvT (args := #[]) hZ (hw _ (List.mem_of_getElem? (i := 75) rfl)))) (hw _ (List.mem_of_getElem? (i := 75) rfl)) (hw _ (List.mem_of_getElem? (i := 74) rfl)) (hw _ (List.mem_of_getElem? (i := 76) rfl)) (hw _ (List.mem_of_getElem? (i := 32) rfl)) (by decide) (b := a81) (argsL := []) (rest := []) (rm4 l Z a0 hw a81 (.ref a42) rfl p1 p2 (.ref a81) rfl T93.heap n0 Z93 f101 (Nat.le_trans Z50 (Nat.le_of_eq g81.symm)) f102 f103 f104 f105) e100 f101 rfl (by rw [hml]; rfl) pd___V rfl (hb hby at_208) 0 (Nat.le_refl _) (by decide) (by decide) (by decide) (by decide) ?_
        intro v106 T106 L106 X106 hQ106
        have f107 := (f94.keep K93')
        have f108 := (f95.keep K93' nin0)
        have f109 := (f96.keep K93' nin0)
        have f110 := (Safe.keep K93' all0 C88.1 (Safe.keep K88' (allS f92 all0) C83.1 f92))
        obtain ⟨hv106, N106', K106', f106_0, f106_1, f106_2, f106_3, f106_4⟩ := hQ106
        subst hv106
        have N106 := Fr.app N100 N106'
        have Z106 : n0 ≤ T106.heap.size := Nat.le_trans Z93 K106'.1
        have eh106 : T106.heap = T106.heap := rfl
        have C106 := CHr.trans C93 (CHr.keep K106' (allS f110 all0) C93.1)
        have hk := Nat.le_trans hk K106'.1
        show Go pP eE below _ (T106.setTop (mkF m 211 #[.val (.int p0), .val (.int p1), .val (.int p2), .val (.int p3), .val (.int ((p0 &&& (255 : Int32))).toUInt32.toUInt16.toUInt32.toInt32), .val (.int (((XT.ushr p0 (8 : Int32)) &&& (255 : Int32))).toUInt32.toUInt16.toUInt32.toInt32), .val (.int (p3 &&& (3 : Int32))), .val (.ref a42), .val (.int (1 : Int32)), .val (.ref a81), .val (.ref b93), .val (.int (1 : Int32)), .unset] []))
        refine Go.st (S' := T106.setTop (mkF m 213 #[.val (.int p0), .val (.int p1), .val (.int p2), .val (.int p3), .val (.int ((p0 &&& (255 : Int32))).toUInt32.toUInt16.toUInt32.toInt32), .val (.int (((XT.ushr p0 (8 : Int32)) &&& (255 : Int32))).toUInt32.toUInt16.toUInt32.toInt32), .val (.int (p3 &&& (3 : Int32))), .val (.ref a42), .val (.int (1 : Int32)), .val (.ref a81), .val (.ref b93), .val (.int (1 : Int32)), .unset] [(.ref b93)])) (fun t kt => XS.aload X106.here hx rfl (hb hby at_211) rfl rfl kt) ?_
        have f111 := (f93_3.keep K106' (ninS (Ne.symm (Nat.ne_of_lt (Nat.lt_of_lt_of_le f88_0.lt y93_0))) nin0))
        have f113 := (f93_0.keep K106')
        refine Go.virt X106 hx hZ hown (hw _ (List.mem_of_getElem? (i := 60) rfl)) (hw _ (List.mem_of_getElem? (i := 61) rfl)) (notFace_of_selects (mvT (args := #[]) hZ (hw _ (List.mem_of_getElem? (i := 63) rfl)))) (hw _ (List.mem_of_getElem? (i := 63) rfl)) (hw _ (List.mem_of_getElem? (i := 62) rfl)) (hw _ (List.mem_of_getElem? (i := 64) rfl)) (hw _ (List.mem_of_getElem? (i := 32) rfl)) (by decide) (b := b93) (argsL := []) (rest := []) (rm8 l Z a0 hw b93 p2 T106.heap n0 Z106 f111) eh106 f113 rfl (by rw [hml]; rfl) pd___I rfl (hb hby at_213) 0 (Nat.le_refl _) (by decide) (by decide) (by decide) (by decide) ?_
        intro v112 T112 L112 X112 hQ112
        obtain ⟨hv112, N112', e112⟩ := hQ112
        subst hv112
        have N112 := Fr.app N106 N112'
        show Go pP eE below _ (T112.setTop (mkF m 216 #[.val (.int p0), .val (.int p1), .val (.int p2), .val (.int p3), .val (.int ((p0 &&& (255 : Int32))).toUInt32.toUInt16.toUInt32.toInt32), .val (.int (((XT.ushr p0 (8 : Int32)) &&& (255 : Int32))).toUInt32.toUInt16.toUInt32.toInt32), .val (.int (p3 &&& (3 : Int32))), .val (.ref a42), .val (.int (1 : Int32)), .val (.ref a81), .val (.ref b93), .val (.int (1 : Int32)), .unset] [(.int p2)]))
        refine Go.st (S' := T112.setTop (mkF m 217 #[.val (.int p0), .val (.int p1), .val (.int p2), .val (.int p3), .val (.int ((p0 &&& (255 : Int32))).toUInt32.toUInt16.toUInt32.toInt32), .val (.int (((XT.ushr p0 (8 : Int32)) &&& (255 : Int32))).toUInt32.toUInt16.toUInt32.toInt32), .val (.int (p3 &&& (3 : Int32))), .val (.ref a42), .val (.int (1 : Int32)), .val (.ref a81), .val (.ref b93), .val (.int (1 : Int32)), .unset] [(.int p2), (.int p2)])) (fun t kt => XS.iloadN X112.here hx rfl (hb hby at_216) rfl kt) ?_
        refine Go.st (S' := T112.setTop (mkF m 220 #[.val (.int p0), .val (.int p1), .val (.int p2), .val (.int p3), .val (.int ((p0 &&& (255 : Int32))).toUInt32.toUInt16.toUInt32.toInt32), .val (.int (((XT.ushr p0 (8 : Int32)) &&& (255 : Int32))).toUInt32.toUInt16.toUInt32.toInt32), .val (.int (p3 &&& (3 : Int32))), .val (.ref a42), .val (.int (1 : Int32)), .val (.ref a81), .val (.ref b93), .val (.int (1 : Int32)), .unset] [])) (fun t kt => XS.icmpNo X112.here hx rfl (hb hby at_217) rfl (XT.ii_ne_f rfl) kt) ?_
        refine Go.st (S' := T112.setTop (mkF m 221 #[.val (.int p0), .val (.int p1), .val (.int p2), .val (.int p3), .val (.int ((p0 &&& (255 : Int32))).toUInt32.toUInt16.toUInt32.toInt32), .val (.int (((XT.ushr p0 (8 : Int32)) &&& (255 : Int32))).toUInt32.toUInt16.toUInt32.toInt32), .val (.int (p3 &&& (3 : Int32))), .val (.ref a42), .val (.int (1 : Int32)), .val (.ref a81), .val (.ref b93), .val (.int (1 : Int32)), .unset] [(.int (1 : Int32))])) (fun t kt => XS.iconst X112.here hx rfl (hb hby at_220) kt) ?_
        refine Go.st (S' := T112.setTop (mkF m 225 #[.val (.int p0), .val (.int p1), .val (.int p2), .val (.int p3), .val (.int ((p0 &&& (255 : Int32))).toUInt32.toUInt16.toUInt32.toInt32), .val (.int (((XT.ushr p0 (8 : Int32)) &&& (255 : Int32))).toUInt32.toUInt16.toUInt32.toInt32), .val (.int (p3 &&& (3 : Int32))), .val (.ref a42), .val (.int (1 : Int32)), .val (.ref a81), .val (.ref b93), .val (.int (1 : Int32)), .unset] [(.int (1 : Int32))])) (fun t kt => XS.goto X112.here hx rfl (pc0 := 221) (pc' := 225) rfl (hb hby at_221) (by decide) (by decide) kt) ?_
        refine Go.st (S' := T112.setTop (mkF m 227 #[.val (.int p0), .val (.int p1), .val (.int p2), .val (.int p3), .val (.int ((p0 &&& (255 : Int32))).toUInt32.toUInt16.toUInt32.toInt32), .val (.int (((XT.ushr p0 (8 : Int32)) &&& (255 : Int32))).toUInt32.toUInt16.toUInt32.toInt32), .val (.int (p3 &&& (3 : Int32))), .val (.ref a42), .val (.int (1 : Int32)), .val (.ref a81), .val (.ref b93), .val (.int (1 : Int32)), .val (.int (1 : Int32))] [])) (fun t kt => XS.istore X112.here hx rfl (hb hby at_225) rfl rfl kt) ?_
        refine Go.st (S' := T112.setTop (mkF m 229 #[.val (.int p0), .val (.int p1), .val (.int p2), .val (.int p3), .val (.int ((p0 &&& (255 : Int32))).toUInt32.toUInt16.toUInt32.toInt32), .val (.int (((XT.ushr p0 (8 : Int32)) &&& (255 : Int32))).toUInt32.toUInt16.toUInt32.toInt32), .val (.int (p3 &&& (3 : Int32))), .val (.ref a42), .val (.int (1 : Int32)), .val (.ref a81), .val (.ref b93), .val (.int (1 : Int32)), .val (.int (1 : Int32))] [(.int (1 : Int32))])) (fun t kt => XS.iload X112.here hx rfl (hb hby at_227) rfl kt) ?_
        refine Go.st (S' := T112.setTop (mkF m 232 #[.val (.int p0), .val (.int p1), .val (.int p2), .val (.int p3), .val (.int ((p0 &&& (255 : Int32))).toUInt32.toUInt16.toUInt32.toInt32), .val (.int (((XT.ushr p0 (8 : Int32)) &&& (255 : Int32))).toUInt32.toUInt16.toUInt32.toInt32), .val (.int (p3 &&& (3 : Int32))), .val (.ref a42), .val (.int (1 : Int32)), .val (.ref a81), .val (.ref b93), .val (.int (1 : Int32)), .val (.int (1 : Int32))] [])) (fun t kt => XS.ifNo X112.here hx rfl (hb hby at_229) rfl (XT.i0_eq_f (by decide)) kt) ?_
        refine Go.st (S' := T112.setTop (mkF m 234 #[.val (.int p0), .val (.int p1), .val (.int p2), .val (.int p3), .val (.int ((p0 &&& (255 : Int32))).toUInt32.toUInt16.toUInt32.toInt32), .val (.int (((XT.ushr p0 (8 : Int32)) &&& (255 : Int32))).toUInt32.toUInt16.toUInt32.toInt32), .val (.int (p3 &&& (3 : Int32))), .val (.ref a42), .val (.int (1 : Int32)), .val (.ref a81), .val (.ref b93), .val (.int (1 : Int32)), .val (.int (1 : Int32))] [(.int (1 : Int32))])) (fun t kt => XS.iload X112.here hx rfl (hb hby at_232) rfl kt) ?_
        refine Go.st (S' := T112.setTop (mkF m 237 #[.val (.int p0), .val (.int p1), .val (.int p2), .val (.int p3), .val (.int ((p0 &&& (255 : Int32))).toUInt32.toUInt16.toUInt32.toInt32), .val (.int (((XT.ushr p0 (8 : Int32)) &&& (255 : Int32))).toUInt32.toUInt16.toUInt32.toInt32), .val (.int (p3 &&& (3 : Int32))), .val (.ref a42), .val (.int (1 : Int32)), .val (.ref a81), .val (.ref b93), .val (.int (1 : Int32)), .val (.int (1 : Int32))] [])) (fun t kt => XS.ifNo X112.here hx rfl (hb hby at_234) rfl (XT.i0_eq_f (by decide)) kt) ?_
        refine Go.st (S' := T112.setTop (mkF m 238 #[.val (.int p0), .val (.int p1), .val (.int p2), .val (.int p3), .val (.int ((p0 &&& (255 : Int32))).toUInt32.toUInt16.toUInt32.toInt32), .val (.int (((XT.ushr p0 (8 : Int32)) &&& (255 : Int32))).toUInt32.toUInt16.toUInt32.toInt32), .val (.int (p3 &&& (3 : Int32))), .val (.ref a42), .val (.int (1 : Int32)), .val (.ref a81), .val (.ref b93), .val (.int (1 : Int32)), .val (.int (1 : Int32))] [(.int (1 : Int32))])) (fun t kt => XS.iconst X112.here hx rfl (hb hby at_237) kt) ?_
        refine Go.st (S' := T112.setTop (mkF m 242 #[.val (.int p0), .val (.int p1), .val (.int p2), .val (.int p3), .val (.int ((p0 &&& (255 : Int32))).toUInt32.toUInt16.toUInt32.toInt32), .val (.int (((XT.ushr p0 (8 : Int32)) &&& (255 : Int32))).toUInt32.toUInt16.toUInt32.toInt32), .val (.int (p3 &&& (3 : Int32))), .val (.ref a42), .val (.int (1 : Int32)), .val (.ref a81), .val (.ref b93), .val (.int (1 : Int32)), .val (.int (1 : Int32))] [(.int (1 : Int32))])) (fun t kt => XS.goto X112.here hx rfl (pc0 := 238) (pc' := 242) rfl (hb hby at_238) (by decide) (by decide) kt) ?_
        exact retw_b X112 hZ hEL e112 C106 hS hk hx hlk hret (hb hby at_242) (by decide) (by decide) (⟨rfl, N112⟩)
    · refine Go.st (S' := T.setTop (mkF m 61 #[.val (.int p0), .val (.int p1), .val (.int p2), .val (.int p3), .val (.int ((p0 &&& (255 : Int32))).toUInt32.toUInt16.toUInt32.toInt32), .val (.int (((XT.ushr p0 (8 : Int32)) &&& (255 : Int32))).toUInt32.toUInt16.toUInt32.toInt32), .val (.int (p3 &&& (3 : Int32))), .unset, .unset, .unset, .unset, .unset, .unset] [])) (fun t kt => XS.icmpYes X.here hx rfl (pc0 := 38) (pc' := 61) rfl (hb hby at_38) rfl (XT.ii_ne_t hc38_41) (by decide) (by decide) kt) ?_
      refine Go.st (S' := T.setTop (mkF m 63 #[.val (.int p0), .val (.int p1), .val (.int p2), .val (.int p3), .val (.int ((p0 &&& (255 : Int32))).toUInt32.toUInt16.toUInt32.toInt32), .val (.int (((XT.ushr p0 (8 : Int32)) &&& (255 : Int32))).toUInt32.toUInt16.toUInt32.toInt32), .val (.int (p3 &&& (3 : Int32))), .unset, .unset, .unset, .unset, .unset, .unset] [(.int (p3 &&& (3 : Int32)))])) (fun t kt => XS.iload X.here hx rfl (hb hby at_61) rfl kt) ?_
      refine Go.st (S' := T.setTop (mkF m 64 #[.val (.int p0), .val (.int p1), .val (.int p2), .val (.int p3), .val (.int ((p0 &&& (255 : Int32))).toUInt32.toUInt16.toUInt32.toInt32), .val (.int (((XT.ushr p0 (8 : Int32)) &&& (255 : Int32))).toUInt32.toUInt16.toUInt32.toInt32), .val (.int (p3 &&& (3 : Int32))), .unset, .unset, .unset, .unset, .unset, .unset] [(.int (2 : Int32)), (.int (p3 &&& (3 : Int32)))])) (fun t kt => XS.iconst X.here hx rfl (hb hby at_63) kt) ?_
      by_cases hc64_114 : (p3 &&& (3 : Int32)) = (2 : Int32)
      · refine Go.st (S' := T.setTop (mkF m 67 #[.val (.int p0), .val (.int p1), .val (.int p2), .val (.int p3), .val (.int ((p0 &&& (255 : Int32))).toUInt32.toUInt16.toUInt32.toInt32), .val (.int (((XT.ushr p0 (8 : Int32)) &&& (255 : Int32))).toUInt32.toUInt16.toUInt32.toInt32), .val (.int (p3 &&& (3 : Int32))), .unset, .unset, .unset, .unset, .unset, .unset] [])) (fun t kt => XS.icmpNo X.here hx rfl (hb hby at_64) rfl (XT.ii_ne_f hc64_114) kt) ?_
        obtain ⟨T115, h115, X115, e115, E115, A115, D115, -, st115⟩ := newO X hx hZ hown (hw _ (List.mem_of_getElem? (i := 0) rfl)) (hw _ (List.mem_of_getElem? (i := 1) rfl)) (hw _ (List.mem_of_getElem? (i := 2) rfl)) eT (g := (mkF m 67 #[.val (.int p0), .val (.int p1), .val (.int p2), .val (.int p3), .val (.int ((p0 &&& (255 : Int32))).toUInt32.toUInt16.toUInt32.toInt32), .val (.int (((XT.ushr p0 (8 : Int32)) &&& (255 : Int32))).toUInt32.toUInt16.toUInt32.toInt32), .val (.int (p3 &&& (3 : Int32))), .unset, .unset, .unset, .unset, .unset, .unset] [])) rfl (hb hby at_67) (by decide) (by decide)
        obtain ⟨a115, g115⟩ : ∃ z, z = h0.size := ⟨_, rfl⟩
        rw [← g115] at A115 D115 st115
        have Z115 : n0 ≤ h115.size := Nat.le_trans Z0 E115.1
        have S115 : Safe Z own_EL sS.vm h0 a115 := Safe.new (Nat.le_of_eq g115.symm)
        have C115 := CHr.trans C0 (CHr.ext E115 C0.1)
        have hk := Nat.le_trans hk E115.1
        have F115_coder : Fld Z h115 a115 "java/lang/String" "coder" "B" (.int (0 : Int32)) := D115 (Or.inr (hw _ (List.mem_of_getElem? (i := 27) rfl))) (ty := .byte) (by decide)
        have F115_value : Fld Z h115 a115 "java/lang/String" "value" "[B" .null := D115 (Or.inr (hw _ (List.mem_of_getElem? (i := 29) rfl))) (ty := (.array .byte)) (by decide)
        refine Go.st (S' := T115.setTop (mkF m 70 #[.val (.int p0), .val (.int p1), .val (.int p2), .val (.int p3), .val (.int ((p0 &&& (255 : Int32))).toUInt32.toUInt16.toUInt32.toInt32), .val (.int (((XT.ushr p0 (8 : Int32)) &&& (255 : Int32))).toUInt32.toUInt16.toUInt32.toInt32), .val (.int (p3 &&& (3 : Int32))), .unset, .unset, .unset, .unset, .unset, .unset] [(.ref a115)])) (fun t kt => st115 t kt) ?_
        refine Go.st (S' := T115.setTop (mkF m 71 #[.val (.int p0), .val (.int p1), .val (.int p2), .val (.int p3), .val (.int ((p0 &&& (255 : Int32))).toUInt32.toUInt16.toUInt32.toInt32), .val (.int (((XT.ushr p0 (8 : Int32)) &&& (255 : Int32))).toUInt32.toUInt16.toUInt32.toInt32), .val (.int (p3 &&& (3 : Int32))), .unset, .unset, .unset, .unset, .unset, .unset] [(.ref a115), (.ref a115)])) (fun t kt => XS.dup X115.here hx rfl (hb hby at_70) rfl rfl kt) ?_
        refine Go.st (S' := T115.setTop (mkF m 72 #[.val (.int p0), .val (.int p1), .val (.int p2), .val (.int p3), .val (.int ((p0 &&& (255 : Int32))).toUInt32.toUInt16.toUInt32.toInt32), .val (.int (((XT.ushr p0 (8 : Int32)) &&& (255 : Int32))).toUInt32.toUInt16.toUInt32.toInt32), .val (.int (p3 &&& (3 : Int32))), .unset, .unset, .unset, .unset, .unset, .unset] [(.int (2 : Int32)), (.ref a115), (.ref a115)])) (fun t kt => XS.iconst X115.here hx rfl (hb hby at_71) kt) ?_
        obtain ⟨T116, h116, k116, X116, e116, E116, A116, st116⟩ := newP X115 hx hZ (hw _ (List.mem_of_getElem? (i := 3) rfl)) e115 (g := (mkF m 72 #[.val (.int p0), .val (.int p1), .val (.int p2), .val (.int p3), .val (.int ((p0 &&& (255 : Int32))).toUInt32.toUInt16.toUInt32.toInt32), .val (.int (((XT.ushr p0 (8 : Int32)) &&& (255 : Int32))).toUInt32.toUInt16.toUInt32.toInt32), .val (.int (p3 &&& (3 : Int32))), .unset, .unset, .unset, .unset, .unset, .unset] [(.int (2 : Int32)), (.ref a115), (.ref a115)])) rfl (hb hby at_72) rfl (by decide) (cap := 2) (by decide) (by decide) (by decide) (by decide)
        obtain ⟨a116, g116⟩ : ∃ z, z = h115.size := ⟨_, rfl⟩
        rw [← g116] at A116 st116
        have V116 : Arv Z h116 a116 k116 .char (2 : Int32) [(.int (0 : Int32)), (.int (0 : Int32))] (.int (0 : Int32)) := Arv.pad (Arv.new A116 (by decide)) (pad_rep [] _ 2)
        have Z116 : n0 ≤ h116.size := Nat.le_trans Z115 E116.1
        have S116 : Safe Z own_EL sS.vm h115 a116 := Safe.new (Nat.le_of_eq g116.symm)
        have C116 := CHr.trans C115 (CHr.ext E116 C115.1)
        have hk := Nat.le_trans hk E116.1
        refine Go.st (S' := T116.setTop (mkF m 74 #[.val (.int p0), .val (.int p1), .val (.int p2), .val (.int p3), .val (.int ((p0 &&& (255 : Int32))).toUInt32.toUInt16.toUInt32.toInt32), .val (.int (((XT.ushr p0 (8 : Int32)) &&& (255 : Int32))).toUInt32.toUInt16.toUInt32.toInt32), .val (.int (p3 &&& (3 : Int32))), .unset, .unset, .unset, .unset, .unset, .unset] [(.ref a116), (.ref a115), (.ref a115)])) (fun t kt => st116 t kt) ?_
        refine Go.st (S' := T116.setTop (mkF m 75 #[.val (.int p0), .val (.int p1), .val (.int p2), .val (.int p3), .val (.int ((p0 &&& (255 : Int32))).toUInt32.toUInt16.toUInt32.toInt32), .val (.int (((XT.ushr p0 (8 : Int32)) &&& (255 : Int32))).toUInt32.toUInt16.toUInt32.toInt32), .val (.int (p3 &&& (3 : Int32))), .unset, .unset, .unset, .unset, .unset, .unset] [(.ref a116), (.ref a116), (.ref a115), (.ref a115)])) (fun t kt => XS.dup X116.here hx rfl (hb hby at_74) rfl rfl kt) ?_
        refine Go.st (S' := T116.setTop (mkF m 76 #[.val (.int p0), .val (.int p1), .val (.int p2), .val (.int p3), .val (.int ((p0 &&& (255 : Int32))).toUInt32.toUInt16.toUInt32.toInt32), .val (.int (((XT.ushr p0 (8 : Int32)) &&& (255 : Int32))).toUInt32.toUInt16.toUInt32.toInt32), .val (.int (p3 &&& (3 : Int32))), .unset, .unset, .unset, .unset, .unset, .unset] [(.int (0 : Int32)), (.ref a116), (.ref a116), (.ref a115), (.ref a115)])) (fun t kt => XS.iconst X116.here hx rfl (hb hby at_75) kt) ?_
        refine Go.st (S' := T116.setTop (mkF m 78 #[.val (.int p0), .val (.int p1), .val (.int p2), .val (.int p3), .val (.int ((p0 &&& (255 : Int32))).toUInt32.toUInt16.toUInt32.toInt32), .val (.int (((XT.ushr p0 (8 : Int32)) &&& (255 : Int32))).toUInt32.toUInt16.toUInt32.toInt32), .val (.int (p3 &&& (3 : Int32))), .unset, .unset, .unset, .unset, .unset, .unset] [(.int ((p0 &&& (255 : Int32))).toUInt32.toUInt16.toUInt32.toInt32), (.int (0 : Int32)), (.ref a116), (.ref a116), (.ref a115), (.ref a115)])) (fun t kt => XS.iload X116.here hx rfl (hb hby at_76) rfl kt) ?_
        obtain ⟨cl117, Ar117, q117, S117, M117, H117, G117⟩ := id V116
        obtain ⟨T117, h117, X117, e117, W117, st117⟩ := stC X116 hx hZ e116 Ar117 (j := (0 : Int32)) (inb_of S117 ⟨by decide, by decide⟩)  (g := (mkF m 78 #[.val (.int p0), .val (.int p1), .val (.int p2), .val (.int p3), .val (.int ((p0 &&& (255 : Int32))).toUInt32.toUInt16.toUInt32.toInt32), .val (.int (((XT.ushr p0 (8 : Int32)) &&& (255 : Int32))).toUInt32.toUInt16.toUInt32.toInt32), .val (.int (p3 &&& (3 : Int32))), .unset, .unset, .unset, .unset, .unset, .unset] [(.int ((p0 &&& (255 : Int32))).toUInt32.toUInt16.toUInt32.toInt32), (.int (0 : Int32)), (.ref a116), (.ref a116), (.ref a115), (.ref a115)])) rfl rfl (hb hby at_78)
        have V117 : Arv Z h117 a116 k116 .char (2 : Int32) [(.int (nar .char ((p0 &&& (255 : Int32))).toUInt32.toUInt16.toUInt32.toInt32)), (.int (0 : Int32))] (.int (0 : Int32)) := Arv.set Ar117 q117 S117 M117 H117 G117 (fits_nar_char _) W117 0 rfl (Nat.le_of_ble_eq_true rfl)
        have N117 := Fr.snoc X117 N0 (Nat.le_trans Z115 (Nat.le_of_eq g116.symm))
        have Z117 : n0 ≤ h117.size := by rw [Wr.size W117]; exact Z116
        have f118 := (Safe.ext E116 C115.1 S116)
        have C117 := CHr.trans C116 (CHr.wr W117 f118 C116.1)
        have hk := Nat.le_trans hk (Nat.le_of_eq (Wr.size W117).symm)
        refine Go.st (S' := T117.setTop (mkF m 79 #[.val (.int p0), .val (.int p1), .val (.int p2), .val (.int p3), .val (.int ((p0 &&& (255 : Int32))).toUInt32.toUInt16.toUInt32.toInt32), .val (.int (((XT.ushr p0 (8 : Int32)) &&& (255 : Int32))).toUInt32.toUInt16.toUInt32.toInt32), .val (.int (p3 &&& (3 : Int32))), .unset, .unset, .unset, .unset, .unset, .unset] [(.ref a116), (.ref a115), (.ref a115)])) (fun t kt => st117 t kt) ?_
        refine Go.st (S' := T117.setTop (mkF m 80 #[.val (.int p0), .val (.int p1), .val (.int p2), .val (.int p3), .val (.int ((p0 &&& (255 : Int32))).toUInt32.toUInt16.toUInt32.toInt32), .val (.int (((XT.ushr p0 (8 : Int32)) &&& (255 : Int32))).toUInt32.toUInt16.toUInt32.toInt32), .val (.int (p3 &&& (3 : Int32))), .unset, .unset, .unset, .unset, .unset, .unset] [(.ref a116), (.ref a116), (.ref a115), (.ref a115)])) (fun t kt => XS.dup X117.here hx rfl (hb hby at_79) rfl rfl kt) ?_
        refine Go.st (S' := T117.setTop (mkF m 81 #[.val (.int p0), .val (.int p1), .val (.int p2), .val (.int p3), .val (.int ((p0 &&& (255 : Int32))).toUInt32.toUInt16.toUInt32.toInt32), .val (.int (((XT.ushr p0 (8 : Int32)) &&& (255 : Int32))).toUInt32.toUInt16.toUInt32.toInt32), .val (.int (p3 &&& (3 : Int32))), .unset, .unset, .unset, .unset, .unset, .unset] [(.int (1 : Int32)), (.ref a116), (.ref a116), (.ref a115), (.ref a115)])) (fun t kt => XS.iconst X117.here hx rfl (hb hby at_80) kt) ?_
        refine Go.st (S' := T117.setTop (mkF m 83 #[.val (.int p0), .val (.int p1), .val (.int p2), .val (.int p3), .val (.int ((p0 &&& (255 : Int32))).toUInt32.toUInt16.toUInt32.toInt32), .val (.int (((XT.ushr p0 (8 : Int32)) &&& (255 : Int32))).toUInt32.toUInt16.toUInt32.toInt32), .val (.int (p3 &&& (3 : Int32))), .unset, .unset, .unset, .unset, .unset, .unset] [(.int (((XT.ushr p0 (8 : Int32)) &&& (255 : Int32))).toUInt32.toUInt16.toUInt32.toInt32), (.int (1 : Int32)), (.ref a116), (.ref a116), (.ref a115), (.ref a115)])) (fun t kt => XS.iload X117.here hx rfl (hb hby at_81) rfl kt) ?_
        obtain ⟨cl119, Ar119, q119, S119, M119, H119, G119⟩ := id V117
        obtain ⟨T119, h119, X119, e119, W119, st119⟩ := stC X117 hx hZ e117 Ar119 (j := (1 : Int32)) (inb_of S119 ⟨by decide, by decide⟩)  (g := (mkF m 83 #[.val (.int p0), .val (.int p1), .val (.int p2), .val (.int p3), .val (.int ((p0 &&& (255 : Int32))).toUInt32.toUInt16.toUInt32.toInt32), .val (.int (((XT.ushr p0 (8 : Int32)) &&& (255 : Int32))).toUInt32.toUInt16.toUInt32.toInt32), .val (.int (p3 &&& (3 : Int32))), .unset, .unset, .unset, .unset, .unset, .unset] [(.int (((XT.ushr p0 (8 : Int32)) &&& (255 : Int32))).toUInt32.toUInt16.toUInt32.toInt32), (.int (1 : Int32)), (.ref a116), (.ref a116), (.ref a115), (.ref a115)])) rfl rfl (hb hby at_83)
        have V119 : Arv Z h119 a116 k116 .char (2 : Int32) [(.int (nar .char ((p0 &&& (255 : Int32))).toUInt32.toUInt16.toUInt32.toInt32)), (.int (nar .char (((XT.ushr p0 (8 : Int32)) &&& (255 : Int32))).toUInt32.toUInt16.toUInt32.toInt32))] (.int (0 : Int32)) := Arv.set Ar119 q119 S119 M119 H119 G119 (fits_nar_char _) W119 1 rfl (Nat.le_of_ble_eq_true rfl)
        have N119 := Fr.snoc X119 N117 (Nat.le_trans Z115 (Nat.le_of_eq g116.symm))
        have Z119 : n0 ≤ h119.size := by rw [Wr.size W119]; exact Z117
        have f120 := (Safe.wr W117 f118 C116.1 f118)
        have C119 := CHr.trans C117 (CHr.wr W119 f120 C117.1)
        have hk := Nat.le_trans hk (Nat.le_of_eq (Wr.size W119).symm)
        refine Go.st (S' := T119.setTop (mkF m 84 #[.val (.int p0), .val (.int p1), .val (.int p2), .val (.int p3), .val (.int ((p0 &&& (255 : Int32))).toUInt32.toUInt16.toUInt32.toInt32), .val (.int (((XT.ushr p0 (8 : Int32)) &&& (255 : Int32))).toUInt32.toUInt16.toUInt32.toInt32), .val (.int (p3 &&& (3 : Int32))), .unset, .unset, .unset, .unset, .unset, .unset] [(.ref a116), (.ref a115), (.ref a115)])) (fun t kt => st119 t kt) ?_
        have f121 := (Exa.wr W119 (Exa.wr W117 (A115.ext E116)))
        have f122 := (Fld.other W119 (Fld.other W117 (F115_value.ext E116) (Or.inl (Nat.ne_of_lt (by rw [g116]; exact A115.lt)))) (Or.inl (Nat.ne_of_lt (by rw [g116]; exact A115.lt))))
        have f123 := (Fld.other W119 (Fld.other W117 (F115_coder.ext E116) (Or.inl (Nat.ne_of_lt (by rw [g116]; exact A115.lt)))) (Or.inl (Nat.ne_of_lt (by rw [g116]; exact A115.lt))))
        have f124 := (Sta.wr W119 (Sta.wr W117 ((S_cs.ext E115).ext E116)))
        refine Go.init X119 hx hZ rfl hown (hw _ (List.mem_of_getElem? (i := 4) rfl)) (hw _ (List.mem_of_getElem? (i := 5) rfl)) (hw _ (List.mem_of_getElem? (i := 6) rfl)) (hw _ (List.mem_of_getElem? (i := 2) rfl)) (by decide) (b := a115) (argsL := [(.ref a116)]) (rest := [(.ref a115)]) (rmK1_2 l Z a0 hw a115 a116 k116 (nar .char ((p0 &&& (255 : Int32))).toUInt32.toUInt16.toUInt32.toInt32) (nar .char (((XT.ushr p0 (8 : Int32)) &&& (255 : Int32))).toUInt32.toUInt16.toUInt32.toInt32) h119 n0 Z119 f121 (Nat.le_trans Z0 (Nat.le_of_eq g115.symm)) (Ne.symm (Nat.ne_of_lt (by rw [g116]; exact A115.lt))) f122 f123 V119 (own_char p0) (own_char (XT.ushr p0 (8 : Int32))) cs f124 hcs) e119 rfl (by rw [hml]; rfl) pd___C_V rfl (hb hby at_84) 1 (Nat.le_refl _) (by decide) (by decide) (by decide) (by decide) ?_
        intro v125 T125 L125 X125 hQ125
        have f126 := (Safe.wr W119 f120 C117.1 (Safe.wr W117 f118 C116.1 (Safe.ext E116 C115.1 (Safe.ext E115 C0.1 S115))))
        obtain ⟨d125, k125, hv125, N125', K125', y125_0, u125_0, f125_0, f125_1, f125_2, f125_3⟩ := hQ125
        subst hv125
        have N125 := Fr.app N119 N125'
        have Z125 : n0 ≤ T125.heap.size := Nat.le_trans Z119 K125'.1
        have eh125 : T125.heap = T125.heap := rfl
        have C125 := CHr.trans C119 (CHr.keep K125' (allS f126 all0) C119.1)
        have hk := Nat.le_trans hk K125'.1
        show Go pP eE below _ (T125.setTop (mkF m 87 #[.val (.int p0), .val (.int p1), .val (.int p2), .val (.int p3), .val (.int ((p0 &&& (255 : Int32))).toUInt32.toUInt16.toUInt32.toInt32), .val (.int (((XT.ushr p0 (8 : Int32)) &&& (255 : Int32))).toUInt32.toUInt16.toUInt32.toInt32), .val (.int (p3 &&& (3 : Int32))), .unset, .unset, .unset, .unset, .unset, .unset] [(.ref a115)]))
        refine Go.st (S' := T125.setTop (mkF m 89 #[.val (.int p0), .val (.int p1), .val (.int p2), .val (.int p3), .val (.int ((p0 &&& (255 : Int32))).toUInt32.toUInt16.toUInt32.toInt32), .val (.int (((XT.ushr p0 (8 : Int32)) &&& (255 : Int32))).toUInt32.toUInt16.toUInt32.toInt32), .val (.int (p3 &&& (3 : Int32))), .val (.ref a115), .unset, .unset, .unset, .unset, .unset] [])) (fun t kt => XS.astore X125.here hx rfl (hb hby at_87) rfl rfl rfl kt) ?_
        refine Go.st (S' := T125.setTop (mkF m 104 #[.val (.int p0), .val (.int p1), .val (.int p2), .val (.int p3), .val (.int ((p0 &&& (255 : Int32))).toUInt32.toUInt16.toUInt32.toInt32), .val (.int (((XT.ushr p0 (8 : Int32)) &&& (255 : Int32))).toUInt32.toUInt16.toUInt32.toInt32), .val (.int (p3 &&& (3 : Int32))), .val (.ref a115), .unset, .unset, .unset, .unset, .unset] [])) (fun t kt => XS.goto X125.here hx rfl (pc0 := 89) (pc' := 104) rfl (hb hby at_89) (by decide) (by decide) kt) ?_
        refine Go.st (S' := T125.setTop (mkF m 105 #[.val (.int p0), .val (.int p1), .val (.int p2), .val (.int p3), .val (.int ((p0 &&& (255 : Int32))).toUInt32.toUInt16.toUInt32.toInt32), .val (.int (((XT.ushr p0 (8 : Int32)) &&& (255 : Int32))).toUInt32.toUInt16.toUInt32.toInt32), .val (.int (p3 &&& (3 : Int32))), .val (.ref a115), .unset, .unset, .unset, .unset, .unset] [(.int p3)])) (fun t kt => XS.iloadN X125.here hx rfl (hb hby at_104) rfl kt) ?_
        refine Go.st (S' := T125.setTop (mkF m 106 #[.val (.int p0), .val (.int p1), .val (.int p2), .val (.int p3), .val (.int ((p0 &&& (255 : Int32))).toUInt32.toUInt16.toUInt32.toInt32), .val (.int (((XT.ushr p0 (8 : Int32)) &&& (255 : Int32))).toUInt32.toUInt16.toUInt32.toInt32), .val (.int (p3 &&& (3 : Int32))), .val (.ref a115), .unset, .unset, .unset, .unset, .unset] [(.int (4 : Int32)), (.int p3)])) (fun t kt => XS.iconst X125.here hx rfl (hb hby at_105) kt) ?_
        refine Go.st (S' := T125.setTop (mkF m 107 #[.val (.int p0), .val (.int p1), .val (.int p2), .val (.int p3), .val (.int ((p0 &&& (255 : Int32))).toUInt32.toUInt16.toUInt32.toInt32), .val (.int (((XT.ushr p0 (8 : Int32)) &&& (255 : Int32))).toUInt32.toUInt16.toUInt32.toInt32), .val (.int (p3 &&& (3 : Int32))), .val (.ref a115), .unset, .unset, .unset, .unset, .unset] [(.int (p3 &&& (4 : Int32)))])) (fun t kt => XS.iand X125.here hx rfl (hb hby at_106) rfl kt) ?_
        by_cases hc107_127 : (p3 &&& (4 : Int32)) = 0
        · refine Go.st (S' := T125.setTop (mkF m 114 #[.val (.int p0), .val (.int p1), .val (.int p2), .val (.int p3), .val (.int ((p0 &&& (255 : Int32))).toUInt32.toUInt16.toUInt32.toInt32), .val (.int (((XT.ushr p0 (8 : Int32)) &&& (255 : Int32))).toUInt32.toUInt16.toUInt32.toInt32), .val (.int (p3 &&& (3 : Int32))), .val (.ref a115), .unset, .unset, .unset, .unset, .unset] [])) (fun t kt => XS.ifYes X125.here hx rfl (pc0 := 107) (pc' := 114) rfl (hb hby at_107) rfl (XT.i0_eq_t hc107_127) (by decide) (by decide) kt) ?_
          refine Go.st (S' := T125.setTop (mkF m 115 #[.val (.int p0), .val (.int p1), .val (.int p2), .val (.int p3), .val (.int ((p0 &&& (255 : Int32))).toUInt32.toUInt16.toUInt32.toInt32), .val (.int (((XT.ushr p0 (8 : Int32)) &&& (255 : Int32))).toUInt32.toUInt16.toUInt32.toInt32), .val (.int (p3 &&& (3 : Int32))), .val (.ref a115), .unset, .unset, .unset, .unset, .unset] [(.int (0 : Int32))])) (fun t kt => XS.iconst X125.here hx rfl (hb hby at_114) kt) ?_
          refine Go.st (S' := T125.setTop (mkF m 117 #[.val (.int p0), .val (.int p1), .val (.int p2), .val (.int p3), .val (.int ((p0 &&& (255 : Int32))).toUInt32.toUInt16.toUInt32.toInt32), .val (.int (((XT.ushr p0 (8 : Int32)) &&& (255 : Int32))).toUInt32.toUInt16.toUInt32.toInt32), .val (.int (p3 &&& (3 : Int32))), .val (.ref a115), .val (.int (0 : Int32)), .unset, .unset, .unset, .unset] [])) (fun t kt => XS.istore X125.here hx rfl (hb hby at_115) rfl rfl kt) ?_
          obtain ⟨T128, h128, X128, e128, E128, A128, D128, -, st128⟩ := newO X125 hx hZ hown (hw _ (List.mem_of_getElem? (i := 30) rfl)) (hw _ (List.mem_of_getElem? (i := 31) rfl)) (hw _ (List.mem_of_getElem? (i := 32) rfl)) eh125 (g := (mkF m 117 #[.val (.int p0), .val (.int p1), .val (.int p2), .val (.int p3), .val (.int ((p0 &&& (255 : Int32))).toUInt32.toUInt16.toUInt32.toInt32), .val (.int (((XT.ushr p0 (8 : Int32)) &&& (255 : Int32))).toUInt32.toUInt16.toUInt32.toInt32), .val (.int (p3 &&& (3 : Int32))), .val (.ref a115), .val (.int (0 : Int32)), .unset, .unset, .unset, .unset] [])) rfl (hb hby at_117) (by decide) (by decide)
          obtain ⟨a128, g128⟩ : ∃ z, z = T125.heap.size := ⟨_, rfl⟩
          rw [← g128] at A128 D128 st128
          have Z128 : n0 ≤ h128.size := Nat.le_trans Z125 E128.1
          have f129 := (V119.keep K125' (ninS (Ne.symm (Nat.ne_of_lt (by rw [g116]; exact A115.lt))) nin0))
          have S128 : Safe Z own_EL sS.vm T125.heap a128 := Safe.new (Nat.le_of_eq g128.symm)
          have C128 := CHr.trans C125 (CHr.ext E128 C125.1)
          have hk := Nat.le_trans hk E128.1
          have F128_unit : Fld Z h128 a128 "com/example/seatwright/seatwright/engine/Bucket" "unit" "Ljava/lang/String;" .null := D128 (Or.inr (hw _ (List.mem_of_getElem? (i := 38) rfl))) (ty := (.object "java/lang/String")) (by decide)
          have F128_size : Fld Z h128 a128 "com/example/seatwright/seatwright/engine/Bucket" "size" "I" (.int (0 : Int32)) := D128 (Or.inr (hw _ (List.mem_of_getElem? (i := 40) rfl))) (ty := .int) (by decide)
          have F128_inUse : Fld Z h128 a128 "com/example/seatwright/seatwright/engine/Bucket" "inUse" "I" (.int (0 : Int32)) := D128 (Or.inl (hw _ (List.mem_of_getElem? (i := 42) rfl))) (ty := .int) (by decide)
          have F128_above : Fld Z h128 a128 "com/example/seatwright/seatwright/engine/Bucket" "above" "Lcom/example/seatwright/seatwright/engine/Bucket;" .null := D128 (Or.inl (hw _ (List.mem_of_getElem? (i := 71) rfl))) (ty := (.object "com/example/seatwright/seatwright/engine/Bucket")) (by decide)
          refine Go.st (S' := T128.setTop (mkF m 120 #[.val (.int p0), .val (.int p1), .val (.int p2), .val (.int p3), .val (.int ((p0 &&& (255 : Int32))).toUInt32.toUInt16.toUInt32.toInt32), .val (.int (((XT.ushr p0 (8 : Int32)) &&& (255 : Int32))).toUInt32.toUInt16.toUInt32.toInt32), .val (.int (p3 &&& (3 : Int32))), .val (.ref a115), .val (.int (0 : Int32)), .unset, .unset, .unset, .unset] [(.ref a128)])) (fun t kt => st128 t kt) ?_
          refine Go.st (S' := T128.setTop (mkF m 121 #[.val (.int p0), .val (.int p1), .val (.int p2), .val (.int p3), .val (.int ((p0 &&& (255 : Int32))).toUInt32.toUInt16.toUInt32.toInt32), .val (.int (((XT.ushr p0 (8 : Int32)) &&& (255 : Int32))).toUInt32.toUInt16.toUInt32.toInt32), .val (.int (p3 &&& (3 : Int32))), .val (.ref a115), .val (.int (0 : Int32)), .unset, .unset, .unset, .unset] [(.ref a128), (.ref a128)])) (fun t kt => XS.dup X128.here hx rfl (hb hby at_120) rfl rfl kt) ?_
          refine Go.st (S' := T128.setTop (mkF m 123 #[.val (.int p0), .val (.int p1), .val (.int p2), .val (.int p3), .val (.int ((p0 &&& (255 : Int32))).toUInt32.toUInt16.toUInt32.toInt32), .val (.int (((XT.ushr p0 (8 : Int32)) &&& (255 : Int32))).toUInt32.toUInt16.toUInt32.toInt32), .val (.int (p3 &&& (3 : Int32))), .val (.ref a115), .val (.int (0 : Int32)), .unset, .unset, .unset, .unset] [(.ref a115), (.ref a128), (.ref a128)])) (fun t kt => XS.aload X128.here hx rfl (hb hby at_121) rfl rfl kt) ?_
          refine Go.st (S' := T128.setTop (mkF m 124 #[.val (.int p0), .val (.int p1), .val (.int p2), .val (.int p3), .val (.int ((p0 &&& (255 : Int32))).toUInt32.toUInt16.toUInt32.toInt32), .val (.int (((XT.ushr p0 (8 : Int32)) &&& (255 : Int32))).toUInt32.toUInt16.toUInt32.toInt32), .val (.int (p3 &&& (3 : Int32))), .val (.ref a115), .val (.int (0 : Int32)), .unset, .unset, .unset, .unset] [(.int p1), (.ref a115), (.ref a128), (.ref a128)])) (fun t kt => XS.iloadN X128.here hx rfl (hb hby at_123) rfl kt) ?_
          refine Go.st (S' := T128.setTop (mkF m 125 #[.val (.int p0), .val (.int p1), .val (.int p2), .val (.int p3), .val (.int ((p0 &&& (255 : Int32))).toUInt32.toUInt16.toUInt32.toInt32), .val (.int (((XT.ushr p0 (8 : Int32)) &&& (255 : Int32))).toUInt32.toUInt16.toUInt32.toInt32), .val (.int (p3 &&& (3 : Int32))), .val (.ref a115), .val (.int (0 : Int32)), .unset, .unset, .unset, .unset] [(.int p2), (.int p1), (.ref a115), (.ref a128), (.ref a128)])) (fun t kt => XS.iloadN X128.here hx rfl (hb hby at_124) rfl kt) ?_
          refine Go.init X128 hx hZ rfl hown (hw _ (List.mem_of_getElem? (i := 33) rfl)) (hw _ (List.mem_of_getElem? (i := 34) rfl)) (hw _ (List.mem_of_getElem? (i := 35) rfl)) (hw _ (List.mem_of_getElem? (i := 32) rfl)) (by decide) (b := a128) (argsL := [(.ref a115), (.int p1), (.int p2)]) (rest := [(.ref a128)]) (rm2 l Z a0 hw a128 (.ref a115) rfl p1 p2 h128 n0 Z128 A128 (Nat.le_trans Z125 (Nat.le_of_eq g128.symm)) F128_unit F128_size F128_inUse F128_above) e128 rfl (by rw [hml]; rfl) pd__Ljava_lang_String_II_V rfl (hb hby at_125) 1 (Nat.le_refl _) (by decide) (by decide) (by decide) (by decide) ?_
          intro v130 T130 L130 X130 hQ130
          have f131 := (f125_0.ext E128)
          have f132 := (f129.ext E128)
          have f133 := (f125_3.ext E128)
          have f134 := (Safe.ext E128 C125.1 S128)
          obtain ⟨hv130, N130', K130', f130_0, f130_1, f130_2, f130_3, f130_4⟩ := hQ130
          subst hv130
          have N130 := Fr.app N125 N130'
          have Z130 : n0 ≤ T130.heap.size := Nat.le_trans Z128 K130'.1
          have eh130 : T130.heap = T130.heap := rfl
          have C130 := CHr.trans C128 (CHr.keep K130' (allS f134 all0) C128.1)
          have hk := Nat.le_trans hk K130'.1
          show Go pP eE below _ (T130.setTop (mkF m 128 #[.val (.int p0), .val (.int p1), .val (.int p2), .val (.int p3), .val (.int ((p0 &&& (255 : Int32))).toUInt32.toUInt16.toUInt32.toInt32), .val (.int (((XT.ushr p0 (8 : Int32)) &&& (255 : Int32))).toUInt32.toUInt16.toUInt32.toInt32), .val (.int (p3 &&& (3 : Int32))), .val (.ref a115), .val (.int (0 : Int32)), .unset, .unset, .unset, .unset] [(.ref a128)]))
          refine Go.st (S' := T130.setTop (mkF m 130 #[.val (.int p0), .val (.int p1), .val (.int p2), .val (.int p3), .val (.int ((p0 &&& (255 : Int32))).toUInt32.toUInt16.toUInt32.toInt32), .val (.int (((XT.ushr p0 (8 : Int32)) &&& (255 : Int32))).toUInt32.toUInt16.toUInt32.toInt32), .val (.int (p3 &&& (3 : Int32))), .val (.ref a115), .val (.int (0 : Int32)), .val (.ref a128), .unset, .unset, .unset] [])) (fun t kt => XS.astore X130.here hx rfl (hb hby at_128) rfl rfl rfl kt) ?_
          refine Go.st (S' := T130.setTop (mkF m 132 #[.val (.int p0), .val (.int p1), .val (.int p2), .val (.int p3), .val (.int ((p0 &&& (255 : Int32))).toUInt32.toUInt16.toUInt32.toInt32), .val (.int (((XT.ushr p0 (8 : Int32)) &&& (255 : Int32))).toUInt32.toUInt16.toUInt32.toInt32), .val (.int (p3 &&& (3 : Int32))), .val (.ref a115), .val (.int (0 : Int32)), .val (.ref a128), .unset, .unset, .unset] [(.int (0 : Int32))])) (fun t kt => XS.iload X130.here hx rfl (hb hby at_130) rfl kt) ?_
          refine Go.st (S' := T130.setTop (mkF m 142 #[.val (.int p0), .val (.int p1), .val (.int p2), .val (.int p3), .val (.int ((p0 &&& (255 : Int32))).toUInt32.toUInt16.toUInt32.toInt32), .val (.int (((XT.ushr p0 (8 : Int32)) &&& (255 : Int32))).toUInt32.toUInt16.toUInt32.toInt32), .val (.int (p3 &&& (3 : Int32))), .val (.ref a115), .val (.int (0 : Int32)), .val (.ref a128), .unset, .unset, .unset] [])) (fun t kt => XS.ifYes X130.here hx rfl (pc0 := 132) (pc' := 142) rfl (hb hby at_132) rfl (XT.i0_eq_t (by decide)) (by decide) (by decide) kt) ?_
          refine Go.st (S' := T130.setTop (mkF m 144 #[.val (.int p0), .val (.int p1), .val (.int p2), .val (.int p3), .val (.int ((p0 &&& (255 : Int32))).toUInt32.toUInt16.toUInt32.toInt32), .val (.int (((XT.ushr p0 (8 : Int32)) &&& (255 : Int32))).toUInt32.toUInt16.toUInt32.toInt32), .val (.int (p3 &&& (3 : Int32))), .val (.ref a115), .val (.int (0 : Int32)), .val (.ref a128), .unset, .unset, .unset] [(.ref a128)])) (fun t kt => XS.aload X130.here hx rfl (hb hby at_142) rfl rfl kt) ?_
          refine Go.virt X130 hx hZ hown (hw _ (List.mem_of_getElem? (i := 43) rfl)) (hw _ (List.mem_of_getElem? (i := 44) rfl)) (notFace_of_selects (mvT (args := #[]) hZ (hw _ (List.mem_of_getElem? (i := 46) rfl)))) (hw _ (List.mem_of_getElem? (i := 46) rfl)) (hw _ (List.mem_of_getElem? (i := 45) rfl)) (hw _ (List.mem_of_getElem? (i := 47) rfl)) (hw _ (List.mem_of_getElem? (i := 32) rfl)) (by decide) (b := a128) (argsL := []) (rest := []) (rm3 l Z a0 hw a128 (.ref a115) rfl p1 p2 .null rfl T130.heap n0 Z130 f130_0 (Nat.le_trans Z125 (Nat.le_of_eq g128.symm)) f130_1 f130_2 f130_3 f130_4) eh130 f130_0 rfl (by rw [hml]; rfl) pd___Lcom_example_seatwright_seatwright_engine_Bucket_ rfl (hb hby at_144) 0 (Nat.le_refl _) (by decide) (by decide) (by decide) (by decide) ?_
          intro v135 T135 L135 X135 hQ135
          have f136 := (f131.keep K130')
          have f137 := (f132.keep K130' (ninS (Nat.ne_of_lt (by rw [g128]; exact f129.lt)) nin0))
          have f138 := (f133.keep K130' (ninS (Nat.ne_of_lt (by rw [g128]; exact f125_3.lt)) nin0))
          obtain ⟨b135, hv135, N135', K135', y135_0, u135_0, f135_0, f135_1, f135_2, f135_3, f135_4⟩ := hQ135
          subst hv135
          have N135 := Fr.app N130 N135'
          have Z135 : n0 ≤ T135.heap.size := Nat.le_trans Z130 K135'.1
          have eh135 : T135.heap = T135.heap := rfl
          have C135 := CHr.trans C130 (CHr.keep K135' all0 C130.1)
          have hk := Nat.le_trans hk K135'.1
          show Go pP eE below _ (T135.setTop (mkF m 147 #[.val (.int p0), .val (.int p1), .val (.int p2), .val (.int p3), .val (.int ((p0 &&& (255 : Int32))).toUInt32.toUInt16.toUInt32.toInt32), .val (.int (((XT.ushr p0 (8 : Int32)) &&& (255 : Int32))).toUInt32.toUInt16.toUInt32.toInt32), .val (.int (p3 &&& (3 : Int32))), .val (.ref a115), .val (.int (0 : Int32)), .val (.ref a128), .unset, .unset, .unset] [(.ref b135)]))
          refine Go.st (S' := T135.setTop (mkF m 149 #[.val (.int p0), .val (.int p1), .val (.int p2), .val (.int p3), .val (.int ((p0 &&& (255 : Int32))).toUInt32.toUInt16.toUInt32.toInt32), .val (.int (((XT.ushr p0 (8 : Int32)) &&& (255 : Int32))).toUInt32.toUInt16.toUInt32.toInt32), .val (.int (p3 &&& (3 : Int32))), .val (.ref a115), .val (.int (0 : Int32)), .val (.ref a128), .val (.ref b135), .unset, .unset] [])) (fun t kt => XS.astore X135.here hx rfl (hb hby at_147) rfl rfl rfl kt) ?_
          refine Go.st (S' := T135.setTop (mkF m 151 #[.val (.int p0), .val (.int p1), .val (.int p2), .val (.int p3), .val (.int ((p0 &&& (255 : Int32))).toUInt32.toUInt16.toUInt32.toInt32), .val (.int (((XT.ushr p0 (8 : Int32)) &&& (255 : Int32))).toUInt32.toUInt16.toUInt32.toInt32), .val (.int (p3 &&& (3 : Int32))), .val (.ref a115), .val (.int (0 : Int32)), .val (.ref a128), .val (.ref b135), .unset, .unset] [(.ref b135)])) (fun t kt => XS.aload X135.here hx rfl (hb hby at_149) rfl rfl kt) ?_
          refine Go.st (S' := T135.setTop (mkF m 154 #[.val (.int p0), .val (.int p1), .val (.int p2), .val (.int p3), .val (.int ((p0 &&& (255 : Int32))).toUInt32.toUInt16.toUInt32.toInt32), .val (.int (((XT.ushr p0 (8 : Int32)) &&& (255 : Int32))).toUInt32.toUInt16.toUInt32.toInt32), .val (.int (p3 &&& (3 : Int32))), .val (.ref a115), .val (.int (0 : Int32)), .val (.ref a128), .val (.ref b135), .unset, .unset] [])) (fun t kt => XS.ifnullNo X135.here hx rfl (hb hby at_151) rfl kt) ?_
          refine Go.st (S' := T135.setTop (mkF m 156 #[.val (.int p0), .val (.int p1), .val (.int p2), .val (.int p3), .val (.int ((p0 &&& (255 : Int32))).toUInt32.toUInt16.toUInt32.toInt32), .val (.int (((XT.ushr p0 (8 : Int32)) &&& (255 : Int32))).toUInt32.toUInt16.toUInt32.toInt32), .val (.int (p3 &&& (3 : Int32))), .val (.ref a115), .val (.int (0 : Int32)), .val (.ref a128), .val (.ref b135), .unset, .unset] [(.ref b135)])) (fun t kt => XS.aload X135.here hx rfl (hb hby at_154) rfl rfl kt) ?_
          refine Go.st (S' := T135.setTop (mkF m 158 #[.val (.int p0), .val (.int p1), .val (.int p2), .val (.int p3), .val (.int ((p0 &&& (255 : Int32))).toUInt32.toUInt16.toUInt32.toInt32), .val (.int (((XT.ushr p0 (8 : Int32)) &&& (255 : Int32))).toUInt32.toUInt16.toUInt32.toInt32), .val (.int (p3 &&& (3 : Int32))), .val (.ref a115), .val (.int (0 : Int32)), .val (.ref a128), .val (.ref b135), .unset, .unset] [(.ref a128), (.ref b135)])) (fun t kt => XS.aload X135.here hx rfl (hb hby at_156) rfl rfl kt) ?_
          refine Go.st (S' := T135.setTop (mkF m 163 #[.val (.int p0), .val (.int p1), .val (.int p2), .val (.int p3), .val (.int ((p0 &&& (255 : Int32))).toUInt32.toUInt16.toUInt32.toInt32), .val (.int (((XT.ushr p0 (8 : Int32)) &&& (255 : Int32))).toUInt32.toUInt16.toUInt32.toInt32), .val (.int (p3 &&& (3 : Int32))), .val (.ref a115), .val (.int (0 : Int32)), .val (.ref a128), .val (.ref b135), .unset, .unset] [])) (fun t kt => XT.acmpYes X135.here hx rfl (pc0 := 158) (pc' := 163) rfl (hb hby at_158) rfl rfl rfl (XT.aa_ne_t (fun q => (Ne.symm (Nat.ne_of_lt (Nat.lt_of_lt_of_le f130_0.lt y135_0))) (Value.ref.inj q))) (by decide) (by decide) kt) ?_
          refine Go.st (S' := T135.setTop (mkF m 165 #[.val (.int p0), .val (.int p1), .val (.int p2), .val (.int p3), .val (.int ((p0 &&& (255 : Int32))).toUInt32.toUInt16.toUInt32.toInt32), .val (.int (((XT.ushr p0 (8 : Int32)) &&& (255 : Int32))).toUInt32.toUInt16.toUInt32.toInt32), .val (.int (p3 &&& (3 : Int32))), .val (.ref a115), .val (.int (0 : Int32)), .val (.ref a128), .val (.ref b135), .unset, .unset] [(.ref b135)])) (fun t kt => XS.aload X135.here hx rfl (hb hby at_163) rfl rfl kt) ?_
          refine Go.virt X135 hx hZ hown (hw _ (List.mem_of_getElem? (i := 50) rfl)) (hw _ (List.mem_of_getElem? (i := 51) rfl)) (notFace_of_selects (mvT (args := #[]) hZ (hw _ (List.mem_of_getElem? (i := 53) rfl)))) (hw _ (List.mem_of_getElem? (i := 53) rfl)) (hw _ (List.mem_of_getElem? (i := 52) rfl)) (hw _ (List.mem_of_getElem? (i := 54) rfl)) (hw _ (List.mem_of_getElem? (i := 32) rfl)) (by decide) (b := b135) (argsL := []) (rest := []) (rm6 l Z a0 hw b135 (.ref a115) rfl T135.heap n0 Z135 f135_1) eh135 f135_0 rfl (by rw [hml]; rfl) pd___Ljava_lang_String_ rfl (hb hby at_165) 0 (Nat.le_refl _) (by decide) (by decide) (by decide) (by decide) ?_
          intro v139 T139 L139 X139 hQ139
          obtain ⟨hv139, N139', e139⟩ := hQ139
          subst hv139
          have N139 := Fr.app N135 N139'
          show Go pP eE below _ (T139.setTop (mkF m 168 #[.val (.int p0), .val (.int p1), .val (.int p2), .val (.int p3), .val (.int ((p0 &&& (255 : Int32))).toUInt32.toUInt16.toUInt32.toInt32), .val (.int (((XT.ushr p0 (8 : Int32)) &&& (255 : Int32))).toUInt32.toUInt16.toUInt32.toInt32), .val (.int (p3 &&& (3 : Int32))), .val (.ref a115), .val (.int (0 : Int32)), .val (.ref a128), .val (.ref b135), .unset, .unset] [(.ref a115)]))
          refine Go.st (S' := T139.setTop (mkF m 170 #[.val (.int p0), .val (.int p1), .val (.int p2), .val (.int p3), .val (.int ((p0 &&& (255 : Int32))).toUInt32.toUInt16.toUInt32.toInt32), .val (.int (((XT.ushr p0 (8 : Int32)) &&& (255 : Int32))).toUInt32.toUInt16.toUInt32.toInt32), .val (.int (p3 &&& (3 : Int32))), .val (.ref a115), .val (.int (0 : Int32)), .val (.ref a128), .val (.ref b135), .unset, .unset] [(.ref a115), (.ref a115)])) (fun t kt => XS.aload X139.here hx rfl (hb hby at_168) rfl rfl kt) ?_
          refine Go.st (S' := T139.setTop (mkF m 173 #[.val (.int p0), .val (.int p1), .val (.int p2), .val (.int p3), .val (.int ((p0 &&& (255 : Int32))).toUInt32.toUInt16.toUInt32.toInt32), .val (.int (((XT.ushr p0 (8 : Int32)) &&& (255 : Int32))).toUInt32.toUInt16.toUInt32.toInt32), .val (.int (p3 &&& (3 : Int32))), .val (.ref a115), .val (.int (0 : Int32)), .val (.ref a128), .val (.ref b135), .unset, .unset] [])) (fun t kt => XT.acmpNo X139.here hx rfl (hb hby at_170) rfl rfl rfl (XT.aa_ne_f rfl) kt) ?_
          refine Go.st (S' := T139.setTop (mkF m 175 #[.val (.int p0), .val (.int p1), .val (.int p2), .val (.int p3), .val (.int ((p0 &&& (255 : Int32))).toUInt32.toUInt16.toUInt32.toInt32), .val (.int (((XT.ushr p0 (8 : Int32)) &&& (255 : Int32))).toUInt32.toUInt16.toUInt32.toInt32), .val (.int (p3 &&& (3 : Int32))), .val (.ref a115), .val (.int (0 : Int32)), .val (.ref a128), .val (.ref b135), .unset, .unset] [(.ref b135)])) (fun t kt => XS.aload X139.here hx rfl (hb hby at_173) rfl rfl kt) ?_
          refine Go.virt X139 hx hZ hown (hw _ (List.mem_of_getElem? (i := 55) rfl)) (hw _ (List.mem_of_getElem? (i := 56) rfl)) (notFace_of_selects (mvT (args := #[]) hZ (hw _ (List.mem_of_getElem? (i := 58) rfl)))) (hw _ (List.mem_of_getElem? (i := 58) rfl)) (hw _ (List.mem_of_getElem? (i := 57) rfl)) (hw _ (List.mem_of_getElem? (i := 59) rfl)) (hw _ (List.mem_of_getElem? (i := 32) rfl)) (by decide) (b := b135) (argsL := []) (rest := []) (rm7 l Z a0 hw b135 p1 T135.heap n0 Z135 f135_2) e139 f135_0 rfl (by rw [hml]; rfl) pd___I rfl (hb hby at_175) 0 (Nat.le_refl _) (by decide) (by decide) (by decide) (by decide) ?_
          intro v140 T140 L140 X140 hQ140
          obtain ⟨hv140, N140', e140⟩ := hQ140
          subst hv140
          have N140 := Fr.app N139 N140'
          show Go pP eE below _ (T140.setTop (mkF m 178 #[.val (.int p0), .val (.int p1), .val (.int p2), .val (.int p3), .val (.int ((p0 &&& (255 : Int32))).toUInt32.toUInt16.toUInt32.toInt32), .val (.int (((XT.ushr p0 (8 : Int32)) &&& (255 : Int32))).toUInt32.toUInt16.toUInt32.toInt32), .val (.int (p3 &&& (3 : Int32))), .val (.ref a115), .val (.int (0 : Int32)), .val (.ref a128), .val (.ref b135), .unset, .unset] [(.int p1)]))
          refine Go.st (S' := T140.setTop (mkF m 179 #[.val (.int p0), .val (.int p1), .val (.int p2), .val (.int p3), .val (.int ((p0 &&& (255 : Int32))).toUInt32.toUInt16.toUInt32.toInt32), .val (.int (((XT.ushr p0 (8 : Int32)) &&& (255 : Int32))).toUInt32.toUInt16.toUInt32.toInt32), .val (.int (p3 &&& (3 : Int32))), .val (.ref a115), .val (.int (0 : Int32)), .val (.ref a128), .val (.ref b135), .unset, .unset] [(.int p1), (.int p1)])) (fun t kt => XS.iloadN X140.here hx rfl (hb hby at_178) rfl kt) ?_
          refine Go.st (S' := T140.setTop (mkF m 182 #[.val (.int p0), .val (.int p1), .val (.int p2), .val (.int p3), .val (.int ((p0 &&& (255 : Int32))).toUInt32.toUInt16.toUInt32.toInt32), .val (.int (((XT.ushr p0 (8 : Int32)) &&& (255 : Int32))).toUInt32.toUInt16.toUInt32.toInt32), .val (.int (p3 &&& (3 : Int32))), .val (.ref a115), .val (.int (0 : Int32)), .val (.ref a128), .val (.ref b135), .unset, .unset] [])) (fun t kt => XS.icmpNo X140.here hx rfl (hb hby at_179) rfl (XT.ii_ne_f rfl) kt) ?_
          refine Go.st (S' := T140.setTop (mkF m 184 #[.val (.int p0), .val (.int p1), .val (.int p2), .val (.int p3), .val (.int ((p0 &&& (255 : Int32))).toUInt32.toUInt16.toUInt32.toInt32), .val (.int (((XT.ushr p0 (8 : Int32)) &&& (255 : Int32))).toUInt32.toUInt16.toUInt32.toInt32), .val (.int (p3 &&& (3 : Int32))), .val (.ref a115), .val (.int (0 : Int32)), .val (.ref a128), .val (.ref b135), .unset, .unset] [(.ref b135)])) (fun t kt => XS.aload X140.here hx rfl (hb hby at_182) rfl rfl kt) ?_
          refine Go.virt X140 hx hZ hown (hw _ (List.mem_of_getElem? (i := 60) rfl)) (hw _ (List.mem_of_getElem? (i := 61) rfl)) (notFace_of_selects (mvT (args := #[]) hZ (hw _ (List.mem_of_getElem? (i := 63) rfl)))) (hw _ (List.mem_of_getElem? (i := 63) rfl)) (hw _ (List.mem_of_getElem? (i := 62) rfl)) (hw _ (List.mem_of_getElem? (i := 64) rfl)) (hw _ (List.mem_of_getElem? (i := 32) rfl)) (by decide) (b := b135) (argsL := []) (rest := []) (rm8 l Z a0 hw b135 p2 T135.heap n0 Z135 f135_3) e140 f135_0 rfl (by rw [hml]; rfl) pd___I rfl (hb hby at_184) 0 (Nat.le_refl _) (by decide) (by decide) (by decide) (by decide) ?_
          intro v141 T141 L141 X141 hQ141
          obtain ⟨hv141, N141', e141⟩ := hQ141
          subst hv141
          have N141 := Fr.app N140 N141'
          show Go pP eE below _ (T141.setTop (mkF m 187 #[.val (.int p0), .val (.int p1), .val (.int p2), .val (.int p3), .val (.int ((p0 &&& (255 : Int32))).toUInt32.toUInt16.toUInt32.toInt32), .val (.int (((XT.ushr p0 (8 : Int32)) &&& (255 : Int32))).toUInt32.toUInt16.toUInt32.toInt32), .val (.int (p3 &&& (3 : Int32))), .val (.ref a115), .val (.int (0 : Int32)), .val (.ref a128), .val (.ref b135), .unset, .unset] [(.int p2)]))
          refine Go.st (S' := T141.setTop (mkF m 188 #[.val (.int p0), .val (.int p1), .val (.int p2), .val (.int p3), .val (.int ((p0 &&& (255 : Int32))).toUInt32.toUInt16.toUInt32.toInt32), .val (.int (((XT.ushr p0 (8 : Int32)) &&& (255 : Int32))).toUInt32.toUInt16.toUInt32.toInt32), .val (.int (p3 &&& (3 : Int32))), .val (.ref a115), .val (.int (0 : Int32)), .val (.ref a128), .val (.ref b135), .unset, .unset] [(.int p2), (.int p2)])) (fun t kt => XS.iloadN X141.here hx rfl (hb hby at_187) rfl kt) ?_
          refine Go.st (S' := T141.setTop (mkF m 191 #[.val (.int p0), .val (.int p1), .val (.int p2), .val (.int p3), .val (.int ((p0 &&& (255 : Int32))).toUInt32.toUInt16.toUInt32.toInt32), .val (.int (((XT.ushr p0 (8 : Int32)) &&& (255 : Int32))).toUInt32.toUInt16.toUInt32.toInt32), .val (.int (p3 &&& (3 : Int32))), .val (.ref a115), .val (.int (0 : Int32)), .val (.ref a128), .val (.ref b135), .unset, .unset] [])) (fun t kt => XS.icmpNo X141.here hx rfl (hb hby at_188) rfl (XT.ii_ne_f rfl) kt) ?_
          refine Go.st (S' := T141.setTop (mkF m 193 #[.val (.int p0), .val (.int p1), .val (.int p2), .val (.int p3), .val (.int ((p0 &&& (255 : Int32))).toUInt32.toUInt16.toUInt32.toInt32), .val (.int (((XT.ushr p0 (8 : Int32)) &&& (255 : Int32))).toUInt32.toUInt16.toUInt32.toInt32), .val (.int (p3 &&& (3 : Int32))), .val (.ref a115), .val (.int (0 : Int32)), .val (.ref a128), .val (.ref b135), .unset, .unset] [(.ref b135)])) (fun t kt => XS.aload X141.here hx rfl (hb hby at_191) rfl rfl kt) ?_
          refine Go.virt X141 hx hZ hown (hw _ (List.mem_of_getElem? (i := 65) rfl)) (hw _ (List.mem_of_getElem? (i := 66) rfl)) (notFace_of_selects (mvT (args := #[]) hZ (hw _ (List.mem_of_getElem? (i := 68) rfl)))) (hw _ (List.mem_of_getElem? (i := 68) rfl)) (hw _ (List.mem_of_getElem? (i := 67) rfl)) (hw _ (List.mem_of_getElem? (i := 69) rfl)) (hw _ (List.mem_of_getElem? (i := 32) rfl)) (by decide) (b := b135) (argsL := []) (rest := []) (rm9 l Z a0 hw b135 .null rfl T135.heap n0 Z135 f135_4) e141 f135_0 rfl (by rw [hml]; rfl) pd___Lcom_example_seatwright_seatwright_engine_Bucket_ rfl (hb hby at_193) 0 (Nat.le_refl _) (by decide) (by decide) (by decide) (by decide) ?_
          intro v142 T142 L142 X142 hQ142
          obtain ⟨hv142, N142', e142⟩ := hQ142
          subst hv142
          have N142 := Fr.app N141 N142'
          show Go pP eE below _ (T142.setTop (mkF m 196 #[.val (.int p0), .val (.int p1), .val (.int p2), .val (.int p3), .val (.int ((p0 &&& (255 : Int32))).toUInt32.toUInt16.toUInt32.toInt32), .val (.int (((XT.ushr p0 (8 : Int32)) &&& (255 : Int32))).toUInt32.toUInt16.toUInt32.toInt32), .val (.int (p3 &&& (3 : Int32))), .val (.ref a115), .val (.int (0 : Int32)), .val (.ref a128), .val (.ref b135), .unset, .unset] [.null]))
          refine Go.st (S' := T142.setTop (mkF m 199 #[.val (.int p0), .val (.int p1), .val (.int p2), .val (.int p3), .val (.int ((p0 &&& (255 : Int32))).toUInt32.toUInt16.toUInt32.toInt32), .val (.int (((XT.ushr p0 (8 : Int32)) &&& (255 : Int32))).toUInt32.toUInt16.toUInt32.toInt32), .val (.int (p3 &&& (3 : Int32))), .val (.ref a115), .val (.int (0 : Int32)), .val (.ref a128), .val (.ref b135), .unset, .unset] [])) (fun t kt => XT.ifnonnullNo X142.here hx rfl (hb hby at_196) rfl kt) ?_
          refine Go.st (S' := T142.setTop (mkF m 200 #[.val (.int p0), .val (.int p1), .val (.int p2), .val (.int p3), .val (.int ((p0 &&& (255 : Int32))).toUInt32.toUInt16.toUInt32.toInt32), .val (.int (((XT.ushr p0 (8 : Int32)) &&& (255 : Int32))).toUInt32.toUInt16.toUInt32.toInt32), .val (.int (p3 &&& (3 : Int32))), .val (.ref a115), .val (.int (0 : Int32)), .val (.ref a128), .val (.ref b135), .unset, .unset] [(.int (1 : Int32))])) (fun t kt => XS.iconst X142.here hx rfl (hb hby at_199) kt) ?_
          refine Go.st (S' := T142.setTop (mkF m 204 #[.val (.int p0), .val (.int p1), .val (.int p2), .val (.int p3), .val (.int ((p0 &&& (255 : Int32))).toUInt32.toUInt16.toUInt32.toInt32), .val (.int (((XT.ushr p0 (8 : Int32)) &&& (255 : Int32))).toUInt32.toUInt16.toUInt32.toInt32), .val (.int (p3 &&& (3 : Int32))), .val (.ref a115), .val (.int (0 : Int32)), .val (.ref a128), .val (.ref b135), .unset, .unset] [(.int (1 : Int32))])) (fun t kt => XS.goto X142.here hx rfl (pc0 := 200) (pc' := 204) rfl (hb hby at_200) (by decide) (by decide) kt) ?_
          refine Go.st (S' := T142.setTop (mkF m 206 #[.val (.int p0), .val (.int p1), .val (.int p2), .val (.int p3), .val (.int ((p0 &&& (255 : Int32))).toUInt32.toUInt16.toUInt32.toInt32), .val (.int (((XT.ushr p0 (8 : Int32)) &&& (255 : Int32))).toUInt32.toUInt16.toUInt32.toInt32), .val (.int (p3 &&& (3 : Int32))), .val (.ref a115), .val (.int (0 : Int32)), .val (.ref a128), .val (.ref b135), .val (.int (1 : Int32)), .unset] [])) (fun t kt => XS.istore X142.here hx rfl (hb hby at_204) rfl rfl kt) ?_
          refine Go.st (S' := T142.setTop (mkF m 208 #[.val (.int p0), .val (.int p1), .val (.int p2), .val (.int p3), .val (.int ((p0 &&& (255 : Int32))).toUInt32.toUInt16.toUInt32.toInt32), .val (.int (((XT.ushr p0 (8 : Int32)) &&& (255 : Int32))).toUInt32.toUInt16.toUInt32.toInt32), .val (.int (p3 &&& (3 : Int32))), .val (.ref a115), .val (.int (0 : Int32)), .val (.ref a128), .val (.ref b135), .val (.int (1 : Int32)), .unset] [(.ref a128)])) (fun t kt => XS.aload X142.here hx rfl (hb hby at_206) rfl rfl kt) ?_
          have f143 := (f130_0.keep K135')
          have f144 := (f130_1.keep K135' nin0)
          have f145 := (f130_2.keep K135' nin0)
          have f146 := (f130_3.keep K135' nin0)
          have f147 := (f130_4.keep K135' nin0)
          refine Go.virt X142 hx hZ hown (hw _ (List.mem_of_getElem? (i := 72) rfl)) (hw _ (List.mem_of_getElem? (i := 73) rfl)) (notFace_of_selects (mvT (args := #[]) hZ (hw _ (List.mem_of_getElem? (i := 75) rfl)))) (hw _ (List.mem_of_getElem? (i := 75) rfl)) (hw _ (List.mem_of_getElem? (i := 74) rfl)) (hw _ (List.mem_of_getElem? (i := 76) rfl)) (hw _ (List.mem_of_getElem? (i := 32) rfl)) (by decide) (b := a128) (argsL := []) (rest := []) (rm4 l Z a0 hw a128 (.ref a115) rfl p1 p2 .null rfl T135.heap n0 Z135 f143 (Nat.le_trans Z125 (Nat.le_of_eq g128.symm)) f144 f145 f146 f147) e142 f143 rfl (by rw [hml]; rfl) pd___V rfl (hb hby at_208) 0 (Nat.le_refl _) (by decide) (by decide) (by decide) (by decide) ?_
          intro v148 T148 L148 X148 hQ148
          have f149 := (f136.keep K135')
          have f150 := (f137.keep K135' nin0)
          have f151 := (f138.keep K135' nin0)
          have f152 := (Safe.keep K135' all0 C130.1 (Safe.keep K130' (allS f134 all0) C128.1 f134))
          obtain ⟨hv148, N148', K148', f148_0, f148_1, f148_2, f148_3, f148_4⟩ := hQ148
          subst hv148
          have N148 := Fr.app N142 N148'
          have Z148 : n0 ≤ T148.heap.size := Nat.le_trans Z135 K148'.1
          have eh148 : T148.heap = T148.heap := rfl
          have C148 := CHr.trans C135 (CHr.keep K148' (allS f152 all0) C135.1)
          have hk := Nat.le_trans hk K148'.1
          show Go pP eE below _ (T148.setTop (mkF m 211 #[.val (.int p0), .val (.int p1), .val (.int p2), .val (.int p3), .val (.int ((p0 &&& (255 : Int32))).toUInt32.toUInt16.toUInt32.toInt32), .val (.int (((XT.ushr p0 (8 : Int32)) &&& (255 : Int32))).toUInt32.toUInt16.toUInt32.toInt32), .val (.int (p3 &&& (3 : Int32))), .val (.ref a115), .val (.int (0 : Int32)), .val (.ref a128), .val (.ref b135), .val (.int (1 : Int32)), .unset] []))
          refine Go.st (S' := T148.setTop (mkF m 213 #[.val (.int p0), .val (.int p1), .val (.int p2), .val (.int p3), .val (.int ((p0 &&& (255 : Int32))).toUInt32.toUInt16.toUInt32.toInt32), .val (.int (((XT.ushr p0 (8 : Int32)) &&& (255 : Int32))).toUInt32.toUInt16.toUInt32.toInt32), .val (.int (p3 &&& (3 : Int32))), .val (.ref a115), .val (.int (0 : Int32)), .val (.ref a128), .val (.ref b135), .val (.int (1 : Int32)), .unset] [(.ref b135)])) (fun t kt => XS.aload X148.here hx rfl (hb hby at_211) rfl rfl kt) ?_
          have f153 := (f135_3.keep K148' (ninS (Ne.symm (Nat.ne_of_lt (Nat.lt_of_lt_of_le f130_0.lt y135_0))) nin0))
          have f155 := (f135_0.keep K148')
          refine Go.virt X148 hx hZ hown (hw _ (List.mem_of_getElem? (i := 60) rfl)) (hw _ (List.mem_of_getElem? (i := 61) rfl)) (notFace_of_selects (mvT (args := #[]) hZ (hw _ (List.mem_of_getElem? (i := 63) rfl)))) (hw _ (List.mem_of_getElem? (i := 63) rfl)) (hw _ (List.mem_of_getElem? (i := 62) rfl)) (hw _ (List.mem_of_getElem? (i := 64) rfl)) (hw _ (List.mem_of_getElem? (i := 32) rfl)) (by decide) (b := b135) (argsL := []) (rest := []) (rm8 l Z a0 hw b135 p2 T148.heap n0 Z148 f153) eh148 f155 rfl (by rw [hml]; rfl) pd___I rfl (hb hby at_213) 0 (Nat.le_refl _) (by decide) (by decide) (by decide) (by decide) ?_
          intro v154 T154 L154 X154 hQ154
          obtain ⟨hv154, N154', e154⟩ := hQ154
          subst hv154
          have N154 := Fr.app N148 N154'
          show Go pP eE below _ (T154.setTop (mkF m 216 #[.val (.int p0), .val (.int p1), .val (.int p2), .val (.int p3), .val (.int ((p0 &&& (255 : Int32))).toUInt32.toUInt16.toUInt32.toInt32), .val (.int (((XT.ushr p0 (8 : Int32)) &&& (255 : Int32))).toUInt32.toUInt16.toUInt32.toInt32), .val (.int (p3 &&& (3 : Int32))), .val (.ref a115), .val (.int (0 : Int32)), .val (.ref a128), .val (.ref b135), .val (.int (1 : Int32)), .unset] [(.int p2)]))
          refine Go.st (S' := T154.setTop (mkF m 217 #[.val (.int p0), .val (.int p1), .val (.int p2), .val (.int p3), .val (.int ((p0 &&& (255 : Int32))).toUInt32.toUInt16.toUInt32.toInt32), .val (.int (((XT.ushr p0 (8 : Int32)) &&& (255 : Int32))).toUInt32.toUInt16.toUInt32.toInt32), .val (.int (p3 &&& (3 : Int32))), .val (.ref a115), .val (.int (0 : Int32)), .val (.ref a128), .val (.ref b135), .val (.int (1 : Int32)), .unset] [(.int p2), (.int p2)])) (fun t kt => XS.iloadN X154.here hx rfl (hb hby at_216) rfl kt) ?_
          refine Go.st (S' := T154.setTop (mkF m 220 #[.val (.int p0), .val (.int p1), .val (.int p2), .val (.int p3), .val (.int ((p0 &&& (255 : Int32))).toUInt32.toUInt16.toUInt32.toInt32), .val (.int (((XT.ushr p0 (8 : Int32)) &&& (255 : Int32))).toUInt32.toUInt16.toUInt32.toInt32), .val (.int (p3 &&& (3 : Int32))), .val (.ref a115), .val (.int (0 : Int32)), .val (.ref a128), .val (.ref b135), .val (.int (1 : Int32)), .unset] [])) (fun t kt => XS.icmpNo X154.here hx rfl (hb hby at_217) rfl (XT.ii_ne_f rfl) kt) ?_
          refine Go.st (S' := T154.setTop (mkF m 221 #[.val (.int p0), .val (.int p1), .val (.int p2), .val (.int p3), .val (.int ((p0 &&& (255 : Int32))).toUInt32.toUInt16.toUInt32.toInt32), .val (.int (((XT.ushr p0 (8 : Int32)) &&& (255 : Int32))).toUInt32.toUInt16.toUInt32.toInt32), .val (.int (p3 &&& (3 : Int32))), .val (.ref a115), .val (.int (0 : Int32)), .val (.ref a128), .val (.ref b135), .val (.int (1 : Int32)), .unset] [(.int (1 : Int32))])) (fun t kt => XS.iconst X154.here hx rfl (hb hby at_220) kt) ?_
          refine Go.st (S' := T154.setTop (mkF m 225 #[.val (.int p0), .val (.int p1), .val (.int p2), .val (.int p3), .val (.int ((p0 &&& (255 : Int32))).toUInt32.toUInt16.toUInt32.toInt32), .val (.int (((XT.ushr p0 (8 : Int32)) &&& (255 : Int32))).toUInt32.toUInt16.toUInt32.toInt32), .val (.int (p3 &&& (3 : Int32))), .val (.ref a115), .val (.int (0 : Int32)), .val (.ref a128), .val (.ref b135), .val (.int (1 : Int32)), .unset] [(.int (1 : Int32))])) (fun t kt => XS.goto X154.here hx rfl (pc0 := 221) (pc' := 225) rfl (hb hby at_221) (by decide) (by decide) kt) ?_
          refine Go.st (S' := T154.setTop (mkF m 227 #[.val (.int p0), .val (.int p1), .val (.int p2), .val (.int p3), .val (.int ((p0 &&& (255 : Int32))).toUInt32.toUInt16.toUInt32.toInt32), .val (.int (((XT.ushr p0 (8 : Int32)) &&& (255 : Int32))).toUInt32.toUInt16.toUInt32.toInt32), .val (.int (p3 &&& (3 : Int32))), .val (.ref a115), .val (.int (0 : Int32)), .val (.ref a128), .val (.ref b135), .val (.int (1 : Int32)), .val (.int (1 : Int32))] [])) (fun t kt => XS.istore X154.here hx rfl (hb hby at_225) rfl rfl kt) ?_
          refine Go.st (S' := T154.setTop (mkF m 229 #[.val (.int p0), .val (.int p1), .val (.int p2), .val (.int p3), .val (.int ((p0 &&& (255 : Int32))).toUInt32.toUInt16.toUInt32.toInt32), .val (.int (((XT.ushr p0 (8 : Int32)) &&& (255 : Int32))).toUInt32.toUInt16.toUInt32.toInt32), .val (.int (p3 &&& (3 : Int32))), .val (.ref a115), .val (.int (0 : Int32)), .val (.ref a128), .val (.ref b135), .val (.int (1 : Int32)), .val (.int (1 : Int32))] [(.int (1 : Int32))])) (fun t kt => XS.iload X154.here hx rfl (hb hby at_227) rfl kt) ?_
          refine Go.st (S' := T154.setTop (mkF m 232 #[.val (.int p0), .val (.int p1), .val (.int p2), .val (.int p3), .val (.int ((p0 &&& (255 : Int32))).toUInt32.toUInt16.toUInt32.toInt32), .val (.int (((XT.ushr p0 (8 : Int32)) &&& (255 : Int32))).toUInt32.toUInt16.toUInt32.toInt32), .val (.int (p3 &&& (3 : Int32))), .val (.ref a115), .val (.int (0 : Int32)), .val (.ref a128), .val (.ref b135), .val (.int (1 : Int32)), .val (.int (1 : Int32))] [])) (fun t kt => XS.ifNo X154.here hx rfl (hb hby at_229) rfl (XT.i0_eq_f (by decide)) kt) ?_
          refine Go.st (S' := T154.setTop (mkF m 234 #[.val (.int p0), .val (.int p1), .val (.int p2), .val (.int p3), .val (.int ((p0 &&& (255 : Int32))).toUInt32.toUInt16.toUInt32.toInt32), .val (.int (((XT.ushr p0 (8 : Int32)) &&& (255 : Int32))).toUInt32.toUInt16.toUInt32.toInt32), .val (.int (p3 &&& (3 : Int32))), .val (.ref a115), .val (.int (0 : Int32)), .val (.ref a128), .val (.ref b135), .val (.int (1 : Int32)), .val (.int (1 : Int32))] [(.int (1 : Int32))])) (fun t kt => XS.iload X154.here hx rfl (hb hby at_232) rfl kt) ?_
          refine Go.st (S' := T154.setTop (mkF m 237 #[.val (.int p0), .val (.int p1), .val (.int p2), .val (.int p3), .val (.int ((p0 &&& (255 : Int32))).toUInt32.toUInt16.toUInt32.toInt32), .val (.int (((XT.ushr p0 (8 : Int32)) &&& (255 : Int32))).toUInt32.toUInt16.toUInt32.toInt32), .val (.int (p3 &&& (3 : Int32))), .val (.ref a115), .val (.int (0 : Int32)), .val (.ref a128), .val (.ref b135), .val (.int (1 : Int32)), .val (.int (1 : Int32))] [])) (fun t kt => XS.ifNo X154.here hx rfl (hb hby at_234) rfl (XT.i0_eq_f (by decide)) kt) ?_
          refine Go.st (S' := T154.setTop (mkF m 238 #[.val (.int p0), .val (.int p1), .val (.int p2), .val (.int p3), .val (.int ((p0 &&& (255 : Int32))).toUInt32.toUInt16.toUInt32.toInt32), .val (.int (((XT.ushr p0 (8 : Int32)) &&& (255 : Int32))).toUInt32.toUInt16.toUInt32.toInt32), .val (.int (p3 &&& (3 : Int32))), .val (.ref a115), .val (.int (0 : Int32)), .val (.ref a128), .val (.ref b135), .val (.int (1 : Int32)), .val (.int (1 : Int32))] [(.int (1 : Int32))])) (fun t kt => XS.iconst X154.here hx rfl (hb hby at_237) kt) ?_
          refine Go.st (S' := T154.setTop (mkF m 242 #[.val (.int p0), .val (.int p1), .val (.int p2), .val (.int p3), .val (.int ((p0 &&& (255 : Int32))).toUInt32.toUInt16.toUInt32.toInt32), .val (.int (((XT.ushr p0 (8 : Int32)) &&& (255 : Int32))).toUInt32.toUInt16.toUInt32.toInt32), .val (.int (p3 &&& (3 : Int32))), .val (.ref a115), .val (.int (0 : Int32)), .val (.ref a128), .val (.ref b135), .val (.int (1 : Int32)), .val (.int (1 : Int32))] [(.int (1 : Int32))])) (fun t kt => XS.goto X154.here hx rfl (pc0 := 238) (pc' := 242) rfl (hb hby at_238) (by decide) (by decide) kt) ?_
          exact retw_b X154 hZ hEL e154 C148 hS hk hx hlk hret (hb hby at_242) (by decide) (by decide) (⟨rfl, N154⟩)
        · refine Go.st (S' := T125.setTop (mkF m 110 #[.val (.int p0), .val (.int p1), .val (.int p2), .val (.int p3), .val (.int ((p0 &&& (255 : Int32))).toUInt32.toUInt16.toUInt32.toInt32), .val (.int (((XT.ushr p0 (8 : Int32)) &&& (255 : Int32))).toUInt32.toUInt16.toUInt32.toInt32), .val (.int (p3 &&& (3 : Int32))), .val (.ref a115), .unset, .unset, .unset, .unset, .unset] [])) (fun t kt => XS.ifNo X125.here hx rfl (hb hby at_107) rfl (XT.i0_eq_f hc107_127) kt) ?_
          refine Go.st (S' := T125.setTop (mkF m 111 #[.val (.int p0), .val (.int p1), .val (.int p2), .val (.int p3), .val (.int ((p0 &&& (255 : Int32))).toUInt32.toUInt16.toUInt32.toInt32), .val (.int (((XT.ushr p0 (8 : Int32)) &&& (255 : Int32))).toUInt32.toUInt16.toUInt32.toInt32), .val (.int (p3 &&& (3 : Int32))), .val (.ref a115), .unset, .unset, .unset, .unset, .unset] [(.int (1 : Int32))])) (fun t kt => XS.iconst X125.here hx rfl (hb hby at_110) kt) ?_
          refine Go.st (S' := T125.setTop (mkF m 115 #[.val (.int p0), .val (.int p1), .val (.int p2), .val (.int p3), .val (.int ((p0 &&& (255 : Int32))).toUInt32.toUInt16.toUInt32.toInt32), .val (.int (((XT.ushr p0 (8 : Int32)) &&& (255 : Int32))).toUInt32.toUInt16.toUInt32.toInt32), .val (.int (p3 &&& (3 : Int32))), .val (.ref a115), .unset, .unset, .unset, .unset, .unset] [(.int (1 : Int32))])) (fun t kt => XS.goto X125.here hx rfl (pc0 := 111) (pc' := 115) rfl (hb hby at_111) (by decide) (by decide) kt) ?_
          refine Go.st (S' := T125.setTop (mkF m 117 #[.val (.int p0), .val (.int p1), .val (.int p2), .val (.int p3), .val (.int ((p0 &&& (255 : Int32))).toUInt32.toUInt16.toUInt32.toInt32), .val (.int (((XT.ushr p0 (8 : Int32)) &&& (255 : Int32))).toUInt32.toUInt16.toUInt32.toInt32), .val (.int (p3 &&& (3 : Int32))), .val (.ref a115), .val (.int (1 : Int32)), .unset, .unset, .unset, .unset] [])) (fun t kt => XS.istore X125.here hx rfl (hb hby at_115) rfl rfl kt) ?_
          obtain ⟨T156, h156, X156, e156, E156, A156, D156, -, st156⟩ := newO X125 hx hZ hown (hw _ (List.mem_of_getElem? (i := 30) rfl)) (hw _ (List.mem_of_getElem? (i := 31) rfl)) (hw _ (List.mem_of_getElem? (i := 32) rfl)) eh125 (g := (mkF m 117 #[.val (.int p0), .val (.int p1), .val (.int p2), .val (.int p3), .val (.int ((p0 &&& (255 : Int32))).toUInt32.toUInt16.toUInt32.toInt32), .val (.int (((XT.ushr p0 (8 : Int32)) &&& (255 : Int32))).toUInt32.toUInt16.toUInt32.toInt32), .val (.int (p3 &&& (3 : Int32))), .val (.ref a115), .val (.int (1 : Int32)), .unset, .unset, .unset, .unset] [])) rfl (hb hby at_117) (by decide) (by decide)
          obtain ⟨a156, g156⟩ : ∃ z, z = T125.heap.size := ⟨_, rfl⟩
          rw [← g156] at A156 D156 st156
          have Z156 : n0 ≤ h156.size := Nat.le_trans Z125 E156.1
          have f157 := (V119.keep K125' (ninS (Ne.symm (Nat.ne_of_lt (by rw [g116]; exact A115.lt))) nin0))
          have S156 : Safe Z own_EL sS.vm T125.heap a156 := Safe.new (Nat.le_of_eq g156.symm)
          have C156 := CHr.trans C125 (CHr.ext E156 C125.1)
          have hk := Nat.le_trans hk E156.1
          have F156_unit : Fld Z h156 a156 "com/example/seatwright/seatwright/engine/Bucket" "unit" "Ljava/lang/String;" .null := D156 (Or.inr (hw _ (List.mem_of_getElem? (i := 38) rfl))) (ty := (.object "java/lang/String")) (by decide)
          have F156_size : Fld Z h156 a156 "com/example/seatwright/seatwright/engine/Bucket" "size" "I" (.int (0 : Int32)) := D156 (Or.inr (hw _ (List.mem_of_getElem? (i := 40) rfl))) (ty := .int) (by decide)
          have F156_inUse : Fld Z h156 a156 "com/example/seatwright/seatwright/engine/Bucket" "inUse" "I" (.int (0 : Int32)) := D156 (Or.inl (hw _ (List.mem_of_getElem? (i := 42) rfl))) (ty := .int) (by decide)
          have F156_above : Fld Z h156 a156 "com/example/seatwright/seatwright/engine/Bucket" "above" "Lcom/example/seatwright/seatwright/engine/Bucket;" .null := D156 (Or.inl (hw _ (List.mem_of_getElem? (i := 71) rfl))) (ty := (.object "com/example/seatwright/seatwright/engine/Bucket")) (by decide)
          refine Go.st (S' := T156.setTop (mkF m 120 #[.val (.int p0), .val (.int p1), .val (.int p2), .val (.int p3), .val (.int ((p0 &&& (255 : Int32))).toUInt32.toUInt16.toUInt32.toInt32), .val (.int (((XT.ushr p0 (8 : Int32)) &&& (255 : Int32))).toUInt32.toUInt16.toUInt32.toInt32), .val (.int (p3 &&& (3 : Int32))), .val (.ref a115), .val (.int (1 : Int32)), .unset, .unset, .unset, .unset] [(.ref a156)])) (fun t kt => st156 t kt) ?_
          refine Go.st (S' := T156.setTop (mkF m 121 #[.val (.int p0), .val (.int p1), .val (.int p2), .val (.int p3), .val (.int ((p0 &&& (255 : Int32))).toUInt32.toUInt16.toUInt32.toInt32), .val (.int (((XT.ushr p0 (8 : Int32)) &&& (255 : Int32))).toUInt32.toUInt16.toUInt32.toInt32), .val (.int (p3 &&& (3 : Int32))), .val (.ref a115), .val (.int (1 : Int32)), .unset, .unset, .unset, .unset] [(.ref a156), (.ref a156)])) (fun t kt => XS.dup X156.here hx rfl (hb hby at_120) rfl rfl kt) ?_
          refine Go.st (S' := T156.setTop (mkF m 123 #[.val (.int p0), .val (.int p1), .val (.int p2), .val (.int p3), .val (.int ((p0 &&& (255 : Int32))).toUInt32.toUInt16.toUInt32.toInt32), .val (.int (((XT.ushr p0 (8 : Int32)) &&& (255 : Int32))).toUInt32.toUInt16.toUInt32.toInt32), .val (.int (p3 &&& (3 : Int32))), .val (.ref a115), .val (.int (1 : Int32)), .unset, .unset, .unset, .unset] [(.ref a115), (.ref a156), (.ref a156)])) (fun t kt => XS.aload X156.here hx rfl (hb hby at_121) rfl rfl kt) ?_
          refine Go.st (S' := T156.setTop (mkF m 124 #[.val (.int p0), .val (.int p1), .val (.int p2), .val (.int p3), .val (.int ((p0 &&& (255 : Int32))).toUInt32.toUInt16.toUInt32.toInt32), .val (.int (((XT.ushr p0 (8 : Int32)) &&& (255 : Int32))).toUInt32.toUInt16.toUInt32.toInt32), .val (.int (p3 &&& (3 : Int32))), .val (.ref a115), .val (.int (1 : Int32)), .unset, .unset, .unset, .unset] [(.int p1), (.ref a115), (.ref a156), (.ref a156)])) (fun t kt => XS.iloadN X156.here hx rfl (hb hby at_123) rfl kt) ?_
          refine Go.st (S' := T156.setTop (mkF m 125 #[.val (.int p0), .val (.int p1), .val (.int p2), .val (.int p3), .val (.int ((p0 &&& (255 : Int32))).toUInt32.toUInt16.toUInt32.toInt32), .val (.int (((XT.ushr p0 (8 : Int32)) &&& (255 : Int32))).toUInt32.toUInt16.toUInt32.toInt32), .val (.int (p3 &&& (3 : Int32))), .val (.ref a115), .val (.int (1 : Int32)), .unset, .unset, .unset, .unset] [(.int p2), (.int p1), (.ref a115), (.ref a156), (.ref a156)])) (fun t kt => XS.iloadN X156.here hx rfl (hb hby at_124) rfl kt) ?_
          refine Go.init X156 hx hZ rfl hown (hw _ (List.mem_of_getElem? (i := 33) rfl)) (hw _ (List.mem_of_getElem? (i := 34) rfl)) (hw _ (List.mem_of_getElem? (i := 35) rfl)) (hw _ (List.mem_of_getElem? (i := 32) rfl)) (by decide) (b := a156) (argsL := [(.ref a115), (.int p1), (.int p2)]) (rest := [(.ref a156)]) (rm2 l Z a0 hw a156 (.ref a115) rfl p1 p2 h156 n0 Z156 A156 (Nat.le_trans Z125 (Nat.le_of_eq g156.symm)) F156_unit F156_size F156_inUse F156_above) e156 rfl (by rw [hml]; rfl) pd__Ljava_lang_String_II_V rfl (hb hby at_125) 1 (Nat.le_refl _) (by decide) (by decide) (by decide) (by decide) ?_
          intro v158 T158 L158 X158 hQ158
          have f159 := (f125_0.ext E156)
          have f160 := (f157.ext E156)
          have f161 := (f125_3.ext E156)
          have f162 := (Safe.ext E156 C125.1 S156)
          obtain ⟨hv158, N158', K158', f158_0, f158_1, f158_2, f158_3, f158_4⟩ := hQ158
          subst hv158
          have N158 := Fr.app N125 N158'
          have Z158 : n0 ≤ T158.heap.size := Nat.le_trans Z156 K158'.1
          have eh158 : T158.heap = T158.heap := rfl
          have C158 := CHr.trans C156 (CHr.keep K158' (allS f162 all0) C156.1)
          have hk := Nat.le_trans hk K158'.1
          show Go pP eE below _ (T158.setTop (mkF m 128 #[.val (.int p0), .val (.int p1), .val (.int p2), .val (.int p3), .val (.int ((p0 &&& (255 : Int32))).toUInt32.toUInt16.toUInt32.toInt32), .val (.int (((XT.ushr p0 (8 : Int32)) &&& (255 : Int32))).toUInt32.toUInt16.toUInt32.toInt32), .val (.int (p3 &&& (3 : Int32))), .val (.ref a115), .val (.int (1 : Int32)), .unset, .unset, .unset, .unset] [(.ref a156)]))
          refine Go.st (S' := T158.setTop (mkF m 130 #[.val (.int p0), .val (.int p1), .val (.int p2), .val (.int p3), .val (.int ((p0 &&& (255 : Int32))).toUInt32.toUInt16.toUInt32.toInt32), .val (.int (((XT.ushr p0 (8 : Int32)) &&& (255 : Int32))).toUInt32.toUInt16.toUInt32.toInt32), .val (.int (p3 &&& (3 : Int32))), .val (.ref a115), .val (.int (1 : Int32)), .val (.ref a156), .unset, .unset, .unset] [])) (fun t kt => XS.astore X158.here hx rfl (hb hby at_128) rfl rfl rfl kt) ?_
          refine Go.st (S' := T158.setTop (mkF m 132 #[.val (.int p0), .val (.int p1), .val (.int p2), .val (.int p3), .val (.int ((p0 &&& (255 : Int32))).toUInt32.toUInt16.toUInt32.toInt32), .val (.int (((XT.ushr p0 (8 : Int32)) &&& (255 : Int32))).toUInt32.toUInt16.toUInt32.toInt32), .val (.int (p3 &&& (3 : Int32))), .val (.ref a115), .val (.int (1 : Int32)), .val (.ref a156), .unset, .unset, .unset] [(.int (1 : Int32))])) (fun t kt => XS.iload X158.here hx rfl (hb hby at_130) rfl kt) ?_
          refine Go.st (S' := T158.setTop (mkF m 135 #[.val (.int p0), .val (.int p1), .val (.int p2), .val (.int p3), .val (.int ((p0 &&& (255 : Int32))).toUInt32.toUInt16.toUInt32.toInt32), .val (.int (((XT.ushr p0 (8 : Int32)) &&& (255 : Int32))).toUInt32.toUInt16.toUInt32.toInt32), .val (.int (p3 &&& (3 : Int32))), .val (.ref a115), .val (.int (1 : Int32)), .val (.ref a156), .unset, .unset, .unset] [])) (fun t kt => XS.ifNo X158.here hx rfl (hb hby at_132) rfl (XT.i0_eq_f (by decide)) kt) ?_
          refine Go.st (S' := T158.setTop (mkF m 137 #[.val (.int p0), .val (.int p1), .val (.int p2), .val (.int p3), .val (.int ((p0 &&& (255 : Int32))).toUInt32.toUInt16.toUInt32.toInt32), .val (.int (((XT.ushr p0 (8 : Int32)) &&& (255 : Int32))).toUInt32.toUInt16.toUInt32.toInt32), .val (.int (p3 &&& (3 : Int32))), .val (.ref a115), .val (.int (1 : Int32)), .val (.ref a156), .unset, .unset, .unset] [(.ref a156)])) (fun t kt => XS.aload X158.here hx rfl (hb hby at_135) rfl rfl kt) ?_
          refine Go.st (S' := T158.setTop (mkF m 139 #[.val (.int p0), .val (.int p1), .val (.int p2), .val (.int p3), .val (.int ((p0 &&& (255 : Int32))).toUInt32.toUInt16.toUInt32.toInt32), .val (.int (((XT.ushr p0 (8 : Int32)) &&& (255 : Int32))).toUInt32.toUInt16.toUInt32.toInt32), .val (.int (p3 &&& (3 : Int32))), .val (.ref a115), .val (.int (1 : Int32)), .val (.ref a156), .unset, .unset, .unset] [(.ref a156), (.ref a156)])) (fun t kt => XS.aload X158.here hx rfl (hb hby at_137) rfl rfl kt) ?_
          refine Go.virt X158 hx hZ hown (hw _ (List.mem_of_getElem? (i := 77) rfl)) (hw _ (List.mem_of_getElem? (i := 78) rfl)) (notFace_of_selects (mvT (args := #[]) hZ (hw _ (List.mem_of_getElem? (i := 80) rfl)))) (hw _ (List.mem_of_getElem? (i := 80) rfl)) (hw _ (List.mem_of_getElem? (i := 79) rfl)) (hw _ (List.mem_of_getElem? (i := 81) rfl)) (hw _ (List.mem_of_getElem? (i := 32) rfl)) (by decide) (b := a156) (argsL := [(.ref a156)]) (rest := []) (rm5 l Z a0 hw a156 (.ref a115) rfl p1 p2 .null rfl a156 T158.heap n0 Z158 f158_0 (Nat.le_trans Z125 (Nat.le_of_eq g156.symm)) f158_1 f158_2 f158_3 f158_4) eh158 f158_0 rfl (by rw [hml]; rfl) pd__Lcom_example_seatwright_seatwright_engine_Bucket__V rfl (hb hby at_139) 0 (Nat.le_refl _) (by decide) (by decide) (by decide) (by decide) ?_
          intro v163 T163 L163 X163 hQ163
          have f164 := (f159.keep K158')
          have f165 := (f160.keep K158' (ninS (Nat.ne_of_lt (by rw [g156]; exact f157.lt)) nin0))
          have f166 := (f161.keep K158' (ninS (Nat.ne_of_lt (by rw [g156]; exact f125_3.lt)) nin0))
          have f167 := (Safe.keep K158' (allS f162 all0) C156.1 f162)
          obtain ⟨hv163, N163', K163', f163_0, f163_1, f163_2, f163_3, f163_4⟩ := hQ163
          subst hv163
          have N163 := Fr.app N158 N163'
          have Z163 : n0 ≤ T163.heap.size := Nat.le_trans Z158 K163'.1
          have eh163 : T163.heap = T163.heap := rfl
          have C163 := CHr.trans C158 (CHr.keep K163' (allS f167 all0) C158.1)
          have hk := Nat.le_trans hk K163'.1
          show Go pP eE below _ (T163.setTop (mkF m 142 #[.val (.int p0), .val (.int p1), .val (.int p2), .val (.int p3), .val (.int ((p0 &&& (255 : Int32))).toUInt32.toUInt16.toUInt32.toInt32), .val (.int (((XT.ushr p0 (8 : Int32)) &&& (255 : Int32))).toUInt32.toUInt16.toUInt32.toInt32), .val (.int (p3 &&& (3 : Int32))), .val (.ref a115), .val (.int (1 : Int32)), .val (.ref a156), .unset, .unset, .unset] []))
          refine Go.st (S' := T163.setTop (mkF m 144 #[.val (.int p0), .val (.int p1), .val (.int p2), .val (.int p3), .val (.int ((p0 &&& (255 : Int32))).toUInt32.toUInt16.toUInt32.toInt32), .val (.int (((XT.ushr p0 (8 : Int32)) &&& (255 : Int32))).toUInt32.toUInt16.toUInt32.toInt32), .val (.int (p3 &&& (3 : Int32))), .val (.ref a115), .val (.int (1 : Int32)), .val (.ref a156), .unset, .unset, .unset] [(.ref a156)])) (fun t kt => XS.aload X163.here hx rfl (hb hby at_142) rfl rfl kt) ?_
          refine Go.virt X163 hx hZ hown (hw _ (List.mem_of_getElem? (i := 43) rfl)) (hw _ (List.mem_of_getElem? (i := 44) rfl)) (notFace_of_selects (mvT (args := #[]) hZ (hw _ (List.mem_of_getElem? (i := 46) rfl)))) (hw _ (List.mem_of_getElem? (i := 46) rfl)) (hw _ (List.mem_of_getElem? (i := 45) rfl)) (hw _ (List.mem_of_getElem? (i := 47) rfl)) (hw _ (List.mem_of_getElem? (i := 32) rfl)) (by decide) (b := a156) (argsL := []) (rest := []) (rm3 l Z a0 hw a156 (.ref a115) rfl p1 p2 (.ref a156) rfl T163.heap n0 Z163 f163_0 (Nat.le_trans Z125 (Nat.le_of_eq g156.symm)) f163_1 f163_2 f163_3 f163_4) eh163 f163_0 rfl (by rw [hml]; rfl) pd___Lcom_example_seatwright_seatwright_engine_Bucket_ rfl (hb hby at_144) 0 (Nat.le_refl _) (by decide) (by decide) (by decide) (by decide) ?_
          intro v168 T168 L168 X168 hQ168
          have f169 := (f164.keep K163')
          have f170 := (f165.keep K163' (ninS (Nat.ne_of_lt (by rw [g156]; exact f157.lt)) nin0))
          have f171 := (f166.keep K163' (ninS (Nat.ne_of_lt (by rw [g156]; exact f125_3.lt)) nin0))
          obtain ⟨b168, hv168, N168', K168', y168_0, u168_0, f168_0, f168_1, f168_2, f168_3, f168_4⟩ := hQ168
          subst hv168
          have N168 := Fr.app N163 N168'
          have Z168 : n0 ≤ T168.heap.size := Nat.le_trans Z163 K168'.1
          have eh168 : T168.heap = T168.heap := rfl
          have C168 := CHr.trans C163 (CHr.keep K168' all0 C163.1)
          have hk := Nat.le_trans hk K168'.1
          show Go pP eE below _ (T168.setTop (mkF m 147 #[.val (.int p0), .val (.int p1), .val (.int p2), .val (.int p3), .val (.int ((p0 &&& (255 : Int32))).toUInt32.toUInt16.toUInt32.toInt32), .val (.int (((XT.ushr p0 (8 : Int32)) &&& (255 : Int32))).toUInt32.toUInt16.toUInt32.toInt32), .val (.int (p3 &&& (3 : Int32))), .val (.ref a115), .val (.int (1 : Int32)), .val (.ref a156), .unset, .unset, .unset] [(.ref b168)]))
          refine Go.st (S' := T168.setTop (mkF m 149 #[.val (.int p0), .val (.int p1), .val (.int p2), .val (.int p3), .val (.int ((p0 &&& (255 : Int32))).toUInt32.toUInt16.toUInt32.toInt32), .val (.int (((XT.ushr p0 (8 : Int32)) &&& (255 : Int32))).toUInt32.toUInt16.toUInt32.toInt32), .val (.int (p3 &&& (3 : Int32))), .val (.ref a115), .val (.int (1 : Int32)), .val (.ref a156), .val (.ref b168), .unset, .unset] [])) (fun t kt => XS.astore X168.here hx rfl (hb hby at_147) rfl rfl rfl kt) ?_
          refine Go.st (S' := T168.setTop (mkF m 151 #[.val (.int p0), .val (.int p1), .val (.int p2), .val (.int p3), .val (.int ((p0 &&& (255 : Int32))).toUInt32.toUInt16.toUInt32.toInt32), .val (.int (((XT.ushr p0 (8 : Int32)) &&& (255 : Int32))).toUInt32.toUInt16.toUInt32.toInt32), .val (.int (p3 &&& (3 : Int32))), .val (.ref a115), .val (.int (1 : Int32)), .val (.ref a156), .val (.ref b168), .unset, .unset] [(.ref b168)])) (fun t kt => XS.aload X168.here hx rfl (hb hby at_149) rfl rfl kt) ?_
          refine Go.st (S' := T168.setTop (mkF m 154 #[.val (.int p0), .val (.int p1), .val (.int p2), .val (.int p3), .val (.int ((p0 &&& (255 : Int32))).toUInt32.toUInt16.toUInt32.toInt32), .val (.int (((XT.ushr p0 (8 : Int32)) &&& (255 : Int32))).toUInt32.toUInt16.toUInt32.toInt32), .val (.int (p3 &&& (3 : Int32))), .val (.ref a115), .val (.int (1 : Int32)), .val (.ref a156), .val (.ref b168), .unset, .unset] [])) (fun t kt => XS.ifnullNo X168.here hx rfl (hb hby at_151) rfl kt) ?_
          refine Go.st (S' := T168.setTop (mkF m 156 #[.val (.int p0), .val (.int p1), .val (.int p2), .val (.int p3), .val (.int ((p0 &&& (255 : Int32))).toUInt32.toUInt16.toUInt32.toInt32), .val (.int (((XT.ushr p0 (8 : Int32)) &&& (255 : Int32))).toUInt32.toUInt16.toUInt32.toInt32), .val (.int (p3 &&& (3 : Int32))), .val (.ref a115), .val (.int (1 : Int32)), .val (.ref a156), .val (.ref b168), .unset, .unset] [(.ref b168)])) (fun t kt => XS.aload X168.here hx rfl (hb hby at_154) rfl rfl kt) ?_
          refine Go.st (S' := T168.setTop (mkF m 158 #[.val (.int p0), .val (.int p1), .val (.int p2), .val (.int p3), .val (.int ((p0 &&& (255 : Int32))).toUInt32.toUInt16.toUInt32.toInt32), .val (.int (((XT.ushr p0 (8 : Int32)) &&& (255 : Int32))).toUInt32.toUInt16.toUInt32.toInt32), .val (.int (p3 &&& (3 : Int32))), .val (.ref a115), .val (.int (1 : Int32)), .val (.ref a156), .val (.ref b168), .unset, .unset] [(.ref a156), (.ref b168)])) (fun t kt => XS.aload X168.here hx rfl (hb hby at_156) rfl rfl kt) ?_
          refine Go.st (S' := T168.setTop (mkF m 163 #[.val (.int p0), .val (.int p1), .val (.int p2), .val (.int p3), .val (.int ((p0 &&& (255 : Int32))).toUInt32.toUInt16.toUInt32.toInt32), .val (.int (((XT.ushr p0 (8 : Int32)) &&& (255 : Int32))).toUInt32.toUInt16.toUInt32.toInt32), .val (.int (p3 &&& (3 : Int32))), .val (.ref a115), .val (.int (1 : Int32)), .val (.ref a156), .val (.ref b168), .unset, .unset] [])) (fun t kt => XT.acmpYes X168.here hx rfl (pc0 := 158) (pc' := 163) rfl (hb hby at_158) rfl rfl rfl (XT.aa_ne_t (fun q => (Ne.symm (Nat.ne_of_lt (Nat.lt_of_lt_of_le f163_0.lt y168_0))) (Value.ref.inj q))) (by decide) (by decide) kt) ?_
          refine Go.st (S' := T168.setTop (mkF m 165 #[.val (.int p0), .val (.int p1), .val (.int p2), .val (.int p3), .val (.int ((p0 &&& (255 : Int32))).toUInt32.toUInt16.toUInt32.toInt32), .val (.int (((XT.ushr p0 (8 : Int32)) &&& (255 : Int32))).toUInt32.toUInt16.toUInt32.toInt32), .val (.int (p3 &&& (3 : Int32))), .val (.ref a115), .val (.int (1 : Int32)), .val (.ref a156), .val (.ref b168), .unset, .unset] [(.ref b168)])) (fun t kt => XS.aload X168.here hx rfl (hb hby at_163) rfl rfl kt) ?_
          refine Go.virt X168 hx hZ hown (hw _ (List.mem_of_getElem? (i := 50) rfl)) (hw _ (List.mem_of_getElem? (i := 51) rfl)) (notFace_of_selects (mvT (args := #[]) hZ (hw _ (List.mem_of_getElem? (i := 53) rfl)))) (hw _ (List.mem_of_getElem? (i := 53) rfl)) (hw _ (List.mem_of_getElem? (i := 52) rfl)) (hw _ (List.mem_of_getElem? (i := 54) rfl)) (hw _ (List.mem_of_getElem? (i := 32) rfl)) (by decide) (b := b168) (argsL := []) (rest := []) (rm6 l Z a0 hw b168 (.ref a115) rfl T168.heap n0 Z168 f168_1) eh168 f168_0 rfl (by rw [hml]; rfl) pd___Ljava_lang_String_ rfl (hb hby at_165) 0 (Nat.le_refl _) (by decide) (by decide) (by decide) (by decide) ?_
          intro v172 T172 L172 X172 hQ172
          obtain ⟨hv172, N172', e172⟩ := hQ172
          subst hv172
          have N172 := Fr.app N168 N172'
          show Go pP eE below _ (T172.setTop (mkF m 168 #[.val (.int p0), .val (.int p1), .val (.int p2), .val (.int p3), .val (.int ((p0 &&& (255 : Int32))).toUInt32.toUInt16.toUInt32.toInt32), .val (.int (((XT.ushr p0 (8 : Int32)) &&& (255 : Int32))).toUInt32.toUInt16.toUInt32.toInt32), .val (.int (p3 &&& (3 : Int32))), .val (.ref a115), .val (.int (1 : Int32)), .val (.ref a156), .val (.ref b168), .unset, .unset] [(.ref a115)]))
          refine Go.st (S' := T172.setTop (mkF m 170 #[.val (.int p0), .val (.int p1), .val (.int p2), .val (.int p3), .val (.int ((p0 &&& (255 : Int32))).toUInt32.toUInt16.toUInt32.toInt32), .val (.int (((XT.ushr p0 (8 : Int32)) &&& (255 : Int32))).toUInt32.toUInt16.toUInt32.toInt32), .val (.int (p3 &&& (3 : Int32))), .val (.ref a115), .val (.int (1 : Int32)), .val (.ref a156), .val (.ref b168), .unset, .unset] [(.ref a115), (.ref a115)])) (fun t kt => XS.aload X172.here hx rfl (hb hby at_168) rfl rfl kt) ?_
          refine Go.st (S' := T172.setTop (mkF m 173 #[.val (.int p0), .val (.int p1), .val (.int p2), .val (.int p3), .val (.int ((p0 &&& (255 : Int32))).toUInt32.toUInt16.toUInt32.toInt32), .val (.int (((XT.ushr p0 (8 : Int32)) &&& (255 : Int32))).toUInt32.toUInt16.toUInt32.toInt32), .val (.int (p3 &&& (3 : Int32))), .val (.ref a115), .val (.int (1 : Int32)), .val (.ref a156), .val (.ref b168), .unset, .unset] [])) (fun t kt => XT.acmpNo X172.here hx rfl (hb hby at_170) rfl rfl rfl (XT.aa_ne_f rfl) kt) ?_
          refine Go.st (S' := T172.setTop (mkF m 175 #[.val (.int p0), .val (.int p1), .val (.int p2), .val (.int p3), .val (.int ((p0 &&& (255 : Int32))).toUInt32.toUInt16.toUInt32.toInt32), .val (.int (((XT.ushr p0 (8 : Int32)) &&& (255 : Int32))).toUInt32.toUInt16.toUInt32.toInt32), .val (.int (p3 &&& (3 : Int32))), .val (.ref a115), .val (.int (1 : Int32)), .val (.ref a156), .val (.ref b168), .unset, .unset] [(.ref b168)])) (fun t kt => XS.aload X172.here hx rfl (hb hby at_173) rfl rfl kt) ?_
          refine Go.virt X172 hx hZ hown (hw _ (List.mem_of_getElem? (i := 55) rfl)) (hw _ (List.mem_of_getElem? (i := 56) rfl)) (notFace_of_selects (mvT (args := #[]) hZ (hw _ (List.mem_of_getElem? (i := 58) rfl)))) (hw _ (List.mem_of_getElem? (i := 58) rfl)) (hw _ (List.mem_of_getElem? (i := 57) rfl)) (hw _ (List.mem_of_getElem? (i := 59) rfl)) (hw _ (List.mem_of_getElem? (i := 32) rfl)) (by decide) (b := b168) (argsL := []) (rest := []) (rm7 l Z a0 hw b168 p1 T168.heap n0 Z168 f168_2) e172 f168_0 rfl (by rw [hml]; rfl) pd___I rfl (hb hby at_175) 0 (Nat.le_refl _) (by decide) (by decide) (by decide) (by decide) ?_
          intro v173 T173 L173 X173 hQ173
          obtain ⟨hv173, N173', e173⟩ := hQ173
          subst hv173
          have N173 := Fr.app N172 N173'
          show Go pP eE below _ (T173.setTop (mkF m 178 #[.val (.int p0), .val (.int p1), .val (.int p2), .val (.int p3), .val (.int ((p0 &&& (255 : Int32))).toUInt32.toUInt16.toUInt32.toInt32), .val (.int (((XT.ushr p0 (8 : Int32)) &&& (255 : Int32))).toUInt32.toUInt16.toUInt32.toInt32), .val (.int (p3 &&& (3 : Int32))), .val (.ref a115), .val (.int (1 : Int32)), .val (.ref a156), .val (.ref b168), .unset, .unset] [(.int p1)]))
          refine Go.st (S' := T173.setTop (mkF m 179 #[.val (.int p0), .val (.int p1), .val (.int p2), .val (.int p3), .val (.int ((p0 &&& (255 : Int32))).toUInt32.toUInt16.toUInt32.toInt32), .val (.int (((XT.ushr p0 (8 : Int32)) &&& (255 : Int32))).toUInt32.toUInt16.toUInt32.toInt32), .val (.int (p3 &&& (3 : Int32))), .val (.ref a115), .val (.int (1 : Int32)), .val (.ref a156), .val (.ref b168), .unset, .unset] [(.int p1), (.int p1)])) (fun t kt => XS.iloadN X173.here hx rfl (hb hby at_178) rfl kt) ?_
          refine Go.st (S' := T173.setTop (mkF m 182 #[.val (.int p0), .val (.int p1), .val (.int p2), .val (.int p3), .val (.int ((p0 &&& (255 : Int32))).toUInt32.toUInt16.toUInt32.toInt32), .val (.int (((XT.ushr p0 (8 : Int32)) &&& (255 : Int32))).toUInt32.toUInt16.toUInt32.toInt32), .val (.int (p3 &&& (3 : Int32))), .val (.ref a115), .val (.int (1 : Int32)), .val (.ref a156), .val (.ref b168), .unset, .unset] [])) (fun t kt => XS.icmpNo X173.here hx rfl (hb hby at_179) rfl (XT.ii_ne_f rfl) kt) ?_
          refine Go.st (S' := T173.setTop (mkF m 184 #[.val (.int p0), .val (.int p1), .val (.int p2), .val (.int p3), .val (.int ((p0 &&& (255 : Int32))).toUInt32.toUInt16.toUInt32.toInt32), .val (.int (((XT.ushr p0 (8 : Int32)) &&& (255 : Int32))).toUInt32.toUInt16.toUInt32.toInt32), .val (.int (p3 &&& (3 : Int32))), .val (.ref a115), .val (.int (1 : Int32)), .val (.ref a156), .val (.ref b168), .unset, .unset] [(.ref b168)])) (fun t kt => XS.aload X173.here hx rfl (hb hby at_182) rfl rfl kt) ?_
          refine Go.virt X173 hx hZ hown (hw _ (List.mem_of_getElem? (i := 60) rfl)) (hw _ (List.mem_of_getElem? (i := 61) rfl)) (notFace_of_selects (mvT (args := #[]) hZ (hw _ (List.mem_of_getElem? (i := 63) rfl)))) (hw _ (List.mem_of_getElem? (i := 63) rfl)) (hw _ (List.mem_of_getElem? (i := 62) rfl)) (hw _ (List.mem_of_getElem? (i := 64) rfl)) (hw _ (List.mem_of_getElem? (i := 32) rfl)) (by decide) (b := b168) (argsL := []) (rest := []) (rm8 l Z a0 hw b168 p2 T168.heap n0 Z168 f168_3) e173 f168_0 rfl (by rw [hml]; rfl) pd___I rfl (hb hby at_184) 0 (Nat.le_refl _) (by decide) (by decide) (by decide) (by decide) ?_
          intro v174 T174 L174 X174 hQ174
          obtain ⟨hv174, N174', e174⟩ := hQ174
          subst hv174
          have N174 := Fr.app N173 N174'
          show Go pP eE below _ (T174.setTop (mkF m 187 #[.val (.int p0), .val (.int p1), .val (.int p2), .val (.int p3), .val (.int ((p0 &&& (255 : Int32))).toUInt32.toUInt16.toUInt32.toInt32), .val (.int (((XT.ushr p0 (8 : Int32)) &&& (255 : Int32))).toUInt32.toUInt16.toUInt32.toInt32), .val (.int (p3 &&& (3 : Int32))), .val (.ref a115), .val (.int (1 : Int32)), .val (.ref a156), .val (.ref b168), .unset, .unset] [(.int p2)]))
          refine Go.st (S' := T174.setTop (mkF m 188 #[.val (.int p0), .val (.int p1), .val (.int p2), .val (.int p3), .val (.int ((p0 &&& (255 : Int32))).toUInt32.toUInt16.toUInt32.toInt32), .val (.int (((XT.ushr p0 (8 : Int32)) &&& (255 : Int32))).toUInt32.toUInt16.toUInt32.toInt32), .val (.int (p3 &&& (3 : Int32))), .val (.ref a115), .val (.int (1 : Int32)), .val (.ref a156), .val (.ref b168), .unset, .unset] [(.int p2), (.int p2)])) (fun t kt => XS.iloadN X174.here hx rfl (hb hby at_187) rfl kt) ?_
          refine Go.st (S' := T174.setTop (mkF m 191 #[.val (.int p0), .val (.int p1), .val (.int p2), .val (.int p3), .val (.int ((p0 &&& (255 : Int32))).toUInt32.toUInt16.toUInt32.toInt32), .val (.int (((XT.ushr p0 (8 : Int32)) &&& (255 : Int32))).toUInt32.toUInt16.toUInt32.toInt32), .val (.int (p3 &&& (3 : Int32))), .val (.ref a115), .val (.int (1 : Int32)), .val (.ref a156), .val (.ref b168), .unset, .unset] [])) (fun t kt => XS.icmpNo X174.here hx rfl (hb hby at_188) rfl (XT.ii_ne_f rfl) kt) ?_
          refine Go.st (S' := T174.setTop (mkF m 193 #[.val (.int p0), .val (.int p1), .val (.int p2), .val (.int p3), .val (.int ((p0 &&& (255 : Int32))).toUInt32.toUInt16.toUInt32.toInt32), .val (.int (((XT.ushr p0 (8 : Int32)) &&& (255 : Int32))).toUInt32.toUInt16.toUInt32.toInt32), .val (.int (p3 &&& (3 : Int32))), .val (.ref a115), .val (.int (1 : Int32)), .val (.ref a156), .val (.ref b168), .unset, .unset] [(.ref b168)])) (fun t kt => XS.aload X174.here hx rfl (hb hby at_191) rfl rfl kt) ?_
          refine Go.virt X174 hx hZ hown (hw _ (List.mem_of_getElem? (i := 65) rfl)) (hw _ (List.mem_of_getElem? (i := 66) rfl)) (notFace_of_selects (mvT (args := #[]) hZ (hw _ (List.mem_of_getElem? (i := 68) rfl)))) (hw _ (List.mem_of_getElem? (i := 68) rfl)) (hw _ (List.mem_of_getElem? (i := 67) rfl)) (hw _ (List.mem_of_getElem? (i := 69) rfl)) (hw _ (List.mem_of_getElem? (i := 32) rfl)) (by decide) (b := b168) (argsL := []) (rest := []) (rm9 l Z a0 hw b168 .null rfl T168.heap n0 Z168 f168_4) e174 f168_0 rfl (by rw [hml]; rfl) pd___Lcom_example_seatwright_seatwright_engine_Bucket_ rfl (hb hby at_193) 0 (Nat.le_refl _) (by decide) (by decide) (by decide) (by decide) ?_
          intro v175 T175 L175 X175 hQ175
          obtain ⟨hv175, N175', e175⟩ := hQ175
          subst hv175
          have N175 := Fr.app N174 N175'
          show Go pP eE below _ (T175.setTop (mkF m 196 #[.val (.int p0), .val (.int p1), .val (.int p2), .val (.int p3), .val (.int ((p0 &&& (255 : Int32))).toUInt32.toUInt16.toUInt32.toInt32), .val (.int (((XT.ushr p0 (8 : Int32)) &&& (255 : Int32))).toUInt32.toUInt16.toUInt32.toInt32), .val (.int (p3 &&& (3 : Int32))), .val (.ref a115), .val (.int (1 : Int32)), .val (.ref a156), .val (.ref b168), .unset, .unset] [.null]))
          refine Go.st (S' := T175.setTop (mkF m 199 #[.val (.int p0), .val (.int p1), .val (.int p2), .val (.int p3), .val (.int ((p0 &&& (255 : Int32))).toUInt32.toUInt16.toUInt32.toInt32), .val (.int (((XT.ushr p0 (8 : Int32)) &&& (255 : Int32))).toUInt32.toUInt16.toUInt32.toInt32), .val (.int (p3 &&& (3 : Int32))), .val (.ref a115), .val (.int (1 : Int32)), .val (.ref a156), .val (.ref b168), .unset, .unset] [])) (fun t kt => XT.ifnonnullNo X175.here hx rfl (hb hby at_196) rfl kt) ?_
          refine Go.st (S' := T175.setTop (mkF m 200 #[.val (.int p0), .val (.int p1), .val (.int p2), .val (.int p3), .val (.int ((p0 &&& (255 : Int32))).toUInt32.toUInt16.toUInt32.toInt32), .val (.int (((XT.ushr p0 (8 : Int32)) &&& (255 : Int32))).toUInt32.toUInt16.toUInt32.toInt32), .val (.int (p3 &&& (3 : Int32))), .val (.ref a115), .val (.int (1 : Int32)), .val (.ref a156), .val (.ref b168), .unset, .unset] [(.int (1 : Int32))])) (fun t kt => XS.iconst X175.here hx rfl (hb hby at_199) kt) ?_
          refine Go.st (S' := T175.setTop (mkF m 204 #[.val (.int p0), .val (.int p1), .val (.int p2), .val (.int p3), .val (.int ((p0 &&& (255 : Int32))).toUInt32.toUInt16.toUInt32.toInt32), .val (.int (((XT.ushr p0 (8 : Int32)) &&& (255 : Int32))).toUInt32.toUInt16.toUInt32.toInt32), .val (.int (p3 &&& (3 : Int32))), .val (.ref a115), .val (.int (1 : Int32)), .val (.ref a156), .val (.ref b168), .unset, .unset] [(.int (1 : Int32))])) (fun t kt => XS.goto X175.here hx rfl (pc0 := 200) (pc' := 204) rfl (hb hby at_200) (by decide) (by decide) kt) ?_
          refine Go.st (S' := T175.setTop (mkF m 206 #[.val (.int p0), .val (.int p1), .val (.int p2), .val (.int p3), .val (.int ((p0 &&& (255 : Int32))).toUInt32.toUInt16.toUInt32.toInt32), .val (.int (((XT.ushr p0 (8 : Int32)) &&& (255 : Int32))).toUInt32.toUInt16.toUInt32.toInt32), .val (.int (p3 &&& (3 : Int32))), .val (.ref a115), .val (.int (1 : Int32)), .val (.ref a156), .val (.ref b168), .val (.int (1 : Int32)), .unset] [])) (fun t kt => XS.istore X175.here hx rfl (hb hby at_204) rfl rfl kt) ?_
          refine Go.st (S' := T175.setTop (mkF m 208 #[.val (.int p0), .val (.int p1), .val (.int p2), .val (.int p3), .val (.int ((p0 &&& (255 : Int32))).toUInt32.toUInt16.toUInt32.toInt32), .val (.int (((XT.ushr p0 (8 : Int32)) &&& (255 : Int32))).toUInt32.toUInt16.toUInt32.toInt32), .val (.int (p3 &&& (3 : Int32))), .val (.ref a115), .val (.int (1 : Int32)), .val (.ref a156), .val (.ref b168), .val (.int (1 : Int32)), .unset] [(.ref a156)])) (fun t kt => XS.aload X175.here hx rfl (hb hby at_206) rfl rfl kt) ?_
          have f176 := (f163_0.keep K168')
          have f177 := (f163_1.keep K168' nin0)
          have f178 := (f163_2.keep K168' nin0)
          have f179 := (f163_3.keep K168' nin0)
          have f180 := (f163_4.keep K168' nin0)
          refine Go.virt X175 hx hZ hown (hw _ (List.mem_of_getElem? (i := 72) rfl)) (hw _ (List.mem_of_getElem? (i := 73) rfl)) (notFace_of_selects (mvT (args := #[]) hZ (hw _ (List.mem_of_getElem? (i := 75) rfl)))) (hw _ (List.mem_of_getElem? (i := 75) rfl)) (hw _ (List.mem_of_getElem? (i := 74) rfl)) (hw _ (List.mem_of_getElem? (i := 76) rfl)) (hw _ (List.mem_of_getElem? (i := 32) rfl)) (by decide) (b := a156) (argsL := []) (rest := []) (rm4 l Z a0 hw a156 (.ref a115) rfl p1 p2 (.ref a156) rfl T168.heap n0 Z168 f176 (Nat.le_trans Z125 (Nat.le_of_eq g156.symm)) f177 f178 f179 f180) e175 f176 rfl (by rw [hml]; rfl) pd___V rfl (hb hby at_208) 0 (Nat.le_refl _) (by decide) (by decide) (by decide) (by decide) ?_
          intro v181 T181 L181 X181 hQ181
          have f182 := (f169.keep K168')
          have f183 := (f170.keep K168' nin0)
          have f184 := (f171.keep K168' nin0)
          have f185 := (Safe.keep K168' all0 C163.1 (Safe.keep K163' (allS f167 all0) C158.1 f167))
          obtain ⟨hv181, N181', K181', f181_0, f181_1, f181_2, f181_3, f181_4⟩ := hQ181
          subst hv181
          have N181 := Fr.app N175 N181'
          have Z181 : n0 ≤ T181.heap.size := Nat.le_trans Z168 K181'.1
          have eh181 : T181.heap = T181.heap := rfl
          have C181 := CHr.trans C168 (CHr.keep K181' (allS f185 all0) C168.1)
          have hk := Nat.le_trans hk K181'.1
          show Go pP eE below _ (T181.setTop (mkF m 211 #[.val (.int p0), .val (.int p1), .val (.int p2), .val (.int p3), .val (.int ((p0 &&& (255 : Int32))).toUInt32.toUInt16.toUInt32.toInt32), .val (.int (((XT.ushr p0 (8 : Int32)) &&& (255 : Int32))).toUInt32.toUInt16.toUInt32.toInt32), .val (.int (p3 &&& (3 : Int32))), .val (.ref a115), .val (.int (1 : Int32)), .val (.ref a156), .val (.ref b168), .val (.int (1 : Int32)), .unset] []))
          refine Go.st (S' := T181.setTop (mkF m 213 #[.val (.int p0), .val (.int p1), .val (.int p2), .val (.int p3), .val (.int ((p0 &&& (255 : Int32))).toUInt32.toUInt16.toUInt32.toInt32), .val (.int (((XT.ushr p0 (8 : Int32)) &&& (255 : Int32))).toUInt32.toUInt16.toUInt32.toInt32), .val (.int (p3 &&& (3 : Int32))), .val (.ref a115), .val (.int (1 : Int32)), .val (.ref a156), .val (.ref b168), .val (.int (1 : Int32)), .unset] [(.ref b168)])) (fun t kt => XS.aload X181.here hx rfl (hb hby at_211) rfl rfl kt) ?_
          have f186 := (f168_3.keep K181' (ninS (Ne.symm (Nat.ne_of_lt (Nat.lt_of_lt_of_le f163_0.lt y168_0))) nin0))
          have f188 := (f168_0.keep K181')
          refine Go.virt X181 hx hZ hown (hw _ (List.mem_of_getElem? (i := 60) rfl)) (hw _ (List.mem_of_getElem? (i := 61) rfl)) (notFace_of_selects (mvT (args := #[]) hZ (hw _ (List.mem_of_getElem? (i := 63) rfl)))) (hw _ (List.mem_of_getElem? (i := 63) rfl)) (hw _ (List.mem_of_getElem? (i := 62) rfl)) (hw _ (List.mem_of_getElem? (i := 64) rfl)) (hw _ (List.mem_of_getElem? (i := 32) rfl)) (by decide) (b := b168) (argsL := []) (rest := []) (rm8 l Z a0 hw b168 p2 T181.heap n0 Z181 f186) eh181 f188 rfl (by rw [hml]; rfl) pd___I rfl (hb hby at_213) 0 (Nat.le_refl _) (by decide) (by decide) (by decide) (by decide) ?_
          intro v187 T187 L187 X187 hQ187
          obtain ⟨hv187, N187', e187⟩ := hQ187
          subst hv187
          have N187 := Fr.app N181 N187'
          show Go pP eE below _ (T187.setTop (mkF m 216 #[.val (.int p0), .val (.int p1), .val (.int p2), .val (.int p3), .val (.int ((p0 &&& (255 : Int32))).toUInt32.toUInt16.toUInt32.toInt32), .val (.int (((XT.ushr p0 (8 : Int32)) &&& (255 : Int32))).toUInt32.toUInt16.toUInt32.toInt32), .val (.int (p3 &&& (3 : Int32))), .val (.ref a115), .val (.int (1 : Int32)), .val (.ref a156), .val (.ref b168), .val (.int (1 : Int32)), .unset] [(.int p2)]))
          refine Go.st (S' := T187.setTop (mkF m 217 #[.val (.int p0), .val (.int p1), .val (.int p2), .val (.int p3), .val (.int ((p0 &&& (255 : Int32))).toUInt32.toUInt16.toUInt32.toInt32), .val (.int (((XT.ushr p0 (8 : Int32)) &&& (255 : Int32))).toUInt32.toUInt16.toUInt32.toInt32), .val (.int (p3 &&& (3 : Int32))), .val (.ref a115), .val (.int (1 : Int32)), .val (.ref a156), .val (.ref b168), .val (.int (1 : Int32)), .unset] [(.int p2), (.int p2)])) (fun t kt => XS.iloadN X187.here hx rfl (hb hby at_216) rfl kt) ?_
          refine Go.st (S' := T187.setTop (mkF m 220 #[.val (.int p0), .val (.int p1), .val (.int p2), .val (.int p3), .val (.int ((p0 &&& (255 : Int32))).toUInt32.toUInt16.toUInt32.toInt32), .val (.int (((XT.ushr p0 (8 : Int32)) &&& (255 : Int32))).toUInt32.toUInt16.toUInt32.toInt32), .val (.int (p3 &&& (3 : Int32))), .val (.ref a115), .val (.int (1 : Int32)), .val (.ref a156), .val (.ref b168), .val (.int (1 : Int32)), .unset] [])) (fun t kt => XS.icmpNo X187.here hx rfl (hb hby at_217) rfl (XT.ii_ne_f rfl) kt) ?_
          refine Go.st (S' := T187.setTop (mkF m 221 #[.val (.int p0), .val (.int p1), .val (.int p2), .val (.int p3), .val (.int ((p0 &&& (255 : Int32))).toUInt32.toUInt16.toUInt32.toInt32), .val (.int (((XT.ushr p0 (8 : Int32)) &&& (255 : Int32))).toUInt32.toUInt16.toUInt32.toInt32), .val (.int (p3 &&& (3 : Int32))), .val (.ref a115), .val (.int (1 : Int32)), .val (.ref a156), .val (.ref b168), .val (.int (1 : Int32)), .unset] [(.int (1 : Int32))])) (fun t kt => XS.iconst X187.here hx rfl (hb hby at_220) kt) ?_
          refine Go.st (S' := T187.setTop (mkF m 225 #[.val (.int p0), .val (.int p1), .val (.int p2), .val (.int p3), .val (.int ((p0 &&& (255 : Int32))).toUInt32.toUInt16.toUInt32.toInt32), .val (.int (((XT.ushr p0 (8 : Int32)) &&& (255 : Int32))).toUInt32.toUInt16.toUInt32.toInt32), .val (.int (p3 &&& (3 : Int32))), .val (.ref a115), .val (.int (1 : Int32)), .val (.ref a156), .val (.ref b168), .val (.int (1 : Int32)), .unset] [(.int (1 : Int32))])) (fun t kt => XS.goto X187.here hx rfl (pc0 := 221) (pc' := 225) rfl (hb hby at_221) (by decide) (by decide) kt) ?_
          refine Go.st (S' := T187.setTop (mkF m 227 #[.val (.int p0), .val (.int p1), .val (.int p2), .val (.int p3), .val (.int ((p0 &&& (255 : Int32))).toUInt32.toUInt16.toUInt32.toInt32), .val (.int (((XT.ushr p0 (8 : Int32)) &&& (255 : Int32))).toUInt32.toUInt16.toUInt32.toInt32), .val (.int (p3 &&& (3 : Int32))), .val (.ref a115), .val (.int (1 : Int32)), .val (.ref a156), .val (.ref b168), .val (.int (1 : Int32)), .val (.int (1 : Int32))] [])) (fun t kt => XS.istore X187.here hx rfl (hb hby at_225) rfl rfl kt) ?_
          refine Go.st (S' := T187.setTop (mkF m 229 #[.val (.int p0), .val (.int p1), .val (.int p2), .val (.int p3), .val (.int ((p0 &&& (255 : Int32))).toUInt32.toUInt16.toUInt32.toInt32), .val (.int (((XT.ushr p0 (8 : Int32)) &&& (255 : Int32))).toUInt32.toUInt16.toUInt32.toInt32), .val (.int (p3 &&& (3 : Int32))), .val (.ref a115), .val (.int (1 : Int32)), .val (.ref a156), .val (.ref b168), .val (.int (1 : Int32)), .val (.int (1 : Int32))] [(.int (1 : Int32))])) (fun t kt => XS.iload X187.here hx rfl (hb hby at_227) rfl kt) ?_
          refine Go.st (S' := T187.setTop (mkF m 232 #[.val (.int p0), .val (.int p1), .val (.int p2), .val (.int p3), .val (.int ((p0 &&& (255 : Int32))).toUInt32.toUInt16.toUInt32.toInt32), .val (.int (((XT.ushr p0 (8 : Int32)) &&& (255 : Int32))).toUInt32.toUInt16.toUInt32.toInt32), .val (.int (p3 &&& (3 : Int32))), .val (.ref a115), .val (.int (1 : Int32)), .val (.ref a156), .val (.ref b168), .val (.int (1 : Int32)), .val (.int (1 : Int32))] [])) (fun t kt => XS.ifNo X187.here hx rfl (hb hby at_229) rfl (XT.i0_eq_f (by decide)) kt) ?_
          refine Go.st (S' := T187.setTop (mkF m 234 #[.val (.int p0), .val (.int p1), .val (.int p2), .val (.int p3), .val (.int ((p0 &&& (255 : Int32))).toUInt32.toUInt16.toUInt32.toInt32), .val (.int (((XT.ushr p0 (8 : Int32)) &&& (255 : Int32))).toUInt32.toUInt16.toUInt32.toInt32), .val (.int (p3 &&& (3 : Int32))), .val (.ref a115), .val (.int (1 : Int32)), .val (.ref a156), .val (.ref b168), .val (.int (1 : Int32)), .val (.int (1 : Int32))] [(.int (1 : Int32))])) (fun t kt => XS.iload X187.here hx rfl (hb hby at_232) rfl kt) ?_
          refine Go.st (S' := T187.setTop (mkF m 237 #[.val (.int p0), .val (.int p1), .val (.int p2), .val (.int p3), .val (.int ((p0 &&& (255 : Int32))).toUInt32.toUInt16.toUInt32.toInt32), .val (.int (((XT.ushr p0 (8 : Int32)) &&& (255 : Int32))).toUInt32.toUInt16.toUInt32.toInt32), .val (.int (p3 &&& (3 : Int32))), .val (.ref a115), .val (.int (1 : Int32)), .val (.ref a156), .val (.ref b168), .val (.int (1 : Int32)), .val (.int (1 : Int32))] [])) (fun t kt => XS.ifNo X187.here hx rfl (hb hby at_234) rfl (XT.i0_eq_f (by decide)) kt) ?_
          refine Go.st (S' := T187.setTop (mkF m 238 #[.val (.int p0), .val (.int p1), .val (.int p2), .val (.int p3), .val (.int ((p0 &&& (255 : Int32))).toUInt32.toUInt16.toUInt32.toInt32), .val (.int (((XT.ushr p0 (8 : Int32)) &&& (255 : Int32))).toUInt32.toUInt16.toUInt32.toInt32), .val (.int (p3 &&& (3 : Int32))), .val (.ref a115), .val (.int (1 : Int32)), .val (.ref a156), .val (.ref b168), .val (.int (1 : Int32)), .val (.int (1 : Int32))] [(.int (1 : Int32))])) (fun t kt => XS.iconst X187.here hx rfl (hb hby at_237) kt) ?_
          refine Go.st (S' := T187.setTop (mkF m 242 #[.val (.int p0), .val (.int p1), .val (.int p2), .val (.int p3), .val (.int ((p0 &&& (255 : Int32))).toUInt32.toUInt16.toUInt32.toInt32), .val (.int (((XT.ushr p0 (8 : Int32)) &&& (255 : Int32))).toUInt32.toUInt16.toUInt32.toInt32), .val (.int (p3 &&& (3 : Int32))), .val (.ref a115), .val (.int (1 : Int32)), .val (.ref a156), .val (.ref b168), .val (.int (1 : Int32)), .val (.int (1 : Int32))] [(.int (1 : Int32))])) (fun t kt => XS.goto X187.here hx rfl (pc0 := 238) (pc' := 242) rfl (hb hby at_238) (by decide) (by decide) kt) ?_
          exact retw_b X187 hZ hEL e187 C181 hS hk hx hlk hret (hb hby at_242) (by decide) (by decide) (⟨rfl, N187⟩)
      · refine Go.st (S' := T.setTop (mkF m 92 #[.val (.int p0), .val (.int p1), .val (.int p2), .val (.int p3), .val (.int ((p0 &&& (255 : Int32))).toUInt32.toUInt16.toUInt32.toInt32), .val (.int (((XT.ushr p0 (8 : Int32)) &&& (255 : Int32))).toUInt32.toUInt16.toUInt32.toInt32), .val (.int (p3 &&& (3 : Int32))), .unset, .unset, .unset, .unset, .unset, .unset] [])) (fun t kt => XS.icmpYes X.here hx rfl (pc0 := 64) (pc' := 92) rfl (hb hby at_64) rfl (XT.ii_ne_t hc64_114) (by decide) (by decide) kt) ?_
        obtain ⟨T189, h189, X189, e189, E189, A189, D189, -, st189⟩ := newO X hx hZ hown (hw _ (List.mem_of_getElem? (i := 0) rfl)) (hw _ (List.mem_of_getElem? (i := 1) rfl)) (hw _ (List.mem_of_getElem? (i := 2) rfl)) eT (g := (mkF m 92 #[.val (.int p0), .val (.int p1), .val (.int p2), .val (.int p3), .val (.int ((p0 &&& (255 : Int32))).toUInt32.toUInt16.toUInt32.toInt32), .val (.int (((XT.ushr p0 (8 : Int32)) &&& (255 : Int32))).toUInt32.toUInt16.toUInt32.toInt32), .val (.int (p3 &&& (3 : Int32))), .unset, .unset, .unset, .unset, .unset, .unset] [])) rfl (hb hby at_92) (by decide) (by decide)
        obtain ⟨a189, g189⟩ : ∃ z, z = h0.size := ⟨_, rfl⟩
        rw [← g189] at A189 D189 st189
        have Z189 : n0 ≤ h189.size := Nat.le_trans Z0 E189.1
        have S189 : Safe Z own_EL sS.vm h0 a189 := Safe.new (Nat.le_of_eq g189.symm)
        have C189 := CHr.trans C0 (CHr.ext E189 C0.1)
        have hk := Nat.le_trans hk E189.1
        have F189_coder : Fld Z h189 a189 "java/lang/String" "coder" "B" (.int (0 : Int32)) := D189 (Or.inr (hw _ (List.mem_of_getElem? (i := 27) rfl))) (ty := .byte) (by decide)
        have F189_value : Fld Z h189 a189 "java/lang/String" "value" "[B" .null := D189 (Or.inr (hw _ (List.mem_of_getElem? (i := 29) rfl))) (ty := (.array .byte)) (by decide)
        refine Go.st (S' := T189.setTop (mkF m 95 #[.val (.int p0), .val (.int p1), .val (.int p2), .val (.int p3), .val (.int ((p0 &&& (255 : Int32))).toUInt32.toUInt16.toUInt32.toInt32), .val (.int (((XT.ushr p0 (8 : Int32)) &&& (255 : Int32))).toUInt32.toUInt16.toUInt32.toInt32), .val (.int (p3 &&& (3 : Int32))), .unset, .unset, .unset, .unset, .unset, .unset] [(.ref a189)])) (fun t kt => st189 t kt) ?_
        refine Go.st (S' := T189.setTop (mkF m 96 #[.val (.int p0), .val (.int p1), .val (.int p2), .val (.int p3), .val (.int ((p0 &&& (255 : Int32))).toUInt32.toUInt16.toUInt32.toInt32), .val (.int (((XT.ushr p0 (8 : Int32)) &&& (255 : Int32))).toUInt32.toUInt16.toUInt32.toInt32), .val (.int (p3 &&& (3 : Int32))), .unset, .unset, .unset, .unset, .unset, .unset] [(.ref a189), (.ref a189)])) (fun t kt => XS.dup X189.here hx rfl (hb hby at_95) rfl rfl kt) ?_
        refine Go.st (S' := T189.setTop (mkF m 97 #[.val (.int p0), .val (.int p1), .val (.int p2), .val (.int p3), .val (.int ((p0 &&& (255 : Int32))).toUInt32.toUInt16.toUInt32.toInt32), .val (.int (((XT.ushr p0 (8 : Int32)) &&& (255 : Int32))).toUInt32.toUInt16.toUInt32.toInt32), .val (.int (p3 &&& (3 : Int32))), .unset, .unset, .unset, .unset, .unset, .unset] [(.int (0 : Int32)), (.ref a189), (.ref a189)])) (fun t kt => XS.iconst X189.here hx rfl (hb hby at_96) kt) ?_
        obtain ⟨T190, h190, k190, X190, e190, E190, A190, st190⟩ := newP X189 hx hZ (hw _ (List.mem_of_getElem? (i := 3) rfl)) e189 (g := (mkF m 97 #[.val (.int p0), .val (.int p1), .val (.int p2), .val (.int p3), .val (.int ((p0 &&& (255 : Int32))).toUInt32.toUInt16.toUInt32.toInt32), .val (.int (((XT.ushr p0 (8 : Int32)) &&& (255 : Int32))).toUInt32.toUInt16.toUInt32.toInt32), .val (.int (p3 &&& (3 : Int32))), .unset, .unset, .unset, .unset, .unset, .unset] [(.int (0 : Int32)), (.ref a189), (.ref a189)])) rfl (hb hby at_97) rfl (by decide) (cap := 0) (by decide) (by decide) (by decide) (by decide)
        obtain ⟨a190, g190⟩ : ∃ z, z = h189.size := ⟨_, rfl⟩
        rw [← g190] at A190 st190
        have V190 : Arv Z h190 a190 k190 .char (0 : Int32) [] (.int (0 : Int32)) := Arv.pad (Arv.new A190 (by decide)) (pad_rep [] _ 0)
        have Z190 : n0 ≤ h190.size := Nat.le_trans Z189 E190.1
        have S190 : Safe Z own_EL sS.vm h189 a190 := Safe.new (Nat.le_of_eq g190.symm)
        have C190 := CHr.trans C189 (CHr.ext E190 C189.1)
        have hk := Nat.le_trans hk E190.1
        refine Go.st (S' := T190.setTop (mkF m 99 #[.val (.int p0), .val (.int p1), .val (.int p2), .val (.int p3), .val (.int ((p0 &&& (255 : Int32))).toUInt32.toUInt16.toUInt32.toInt32), .val (.int (((XT.ushr p0 (8 : Int32)) &&& (255 : Int32))).toUInt32.toUInt16.toUInt32.toInt32), .val (.int (p3 &&& (3 : Int32))), .unset, .unset, .unset, .unset, .unset, .unset] [(.ref a190), (.ref a189), (.ref a189)])) (fun t kt => st190 t kt) ?_
        have f191 := (A189.ext E190)
        have f192 := (F189_value.ext E190)
        have f193 := (F189_coder.ext E190)
        refine Go.initW X190 hx hZ hEL C190.1 hS hk rfl hown (hw _ (List.mem_of_getElem? (i := 4) rfl)) (hw _ (List.mem_of_getElem? (i := 5) rfl)) (hw _ (List.mem_of_getElem? (i := 6) rfl)) (hw _ (List.mem_of_getElem? (i := 2) rfl)) (by decide) (b := a189) (argsL := [(.ref a190)]) (rest := [(.ref a189)]) (rmK1_0 l Z a0 hw a189 a190 k190 h190 n0 Z190 f191 (Nat.le_trans Z0 (Nat.le_of_eq g189.symm)) (Ne.symm (Nat.ne_of_lt (by rw [g190]; exact A189.lt))) f192 f193 V190) e190 rfl (by rw [hml]; rfl) pd___C_V rfl (hb hby at_99) 1 (Nat.le_refl _) (by decide) (by decide) (by decide) (by decide) ?_
        intro v194 T194 L194 X194 hQ194 A194 hS
        have hk : T194.heap.size ≤ T194.heap.size := Nat.le_refl _
        have hZ := own_hZ hZ0 hS
        have hown := own_hown hown0 hS
        obtain ⟨d194, k194, hv194, N194', K194', f194_0, f194_1, f194_2, f194_3⟩ := hQ194
        subst hv194
        have N194 := Fr.app N0 N194'
        have Z194 : n0 ≤ T194.heap.size := Nat.le_trans Z190 K194'.1
        have eh194 : T194.heap = T194.heap := rfl
        have C194 := CHr.trans C190 A194
        show Go pP eE below _ (T194.setTop (mkF m 102 #[.val (.int p0), .val (.int p1), .val (.int p2), .val (.int p3), .val (.int ((p0 &&& (255 : Int32))).toUInt32.toUInt16.toUInt32.toInt32), .val (.int (((XT.ushr p0 (8 : Int32)) &&& (255 : Int32))).toUInt32.toUInt16.toUInt32.toInt32), .val (.int (p3 &&& (3 : Int32))), .unset, .unset, .unset, .unset, .unset, .unset] [(.ref a189)]))
        refine Go.st (S' := T194.setTop (mkF m 104 #[.val (.int p0), .val (.int p1), .val (.int p2), .val (.int p3), .val (.int ((p0 &&& (255 : Int32))).toUInt32.toUInt16.toUInt32.toInt32), .val (.int (((XT.ushr p0 (8 : Int32)) &&& (255 : Int32))).toUInt32.toUInt16.toUInt32.toInt32), .val (.int (p3 &&& (3 : Int32))), .val (.ref a189), .unset, .unset, .unset, .unset, .unset] [])) (fun t kt => XS.astore X194.here hx rfl (hb hby at_102) rfl rfl rfl kt) ?_
        refine Go.st (S' := T194.setTop (mkF m 105 #[.val (.int p0), .val (.int p1), .val (.int p2), .val (.int p3), .val (.int ((p0 &&& (255 : Int32))).toUInt32.toUInt16.toUInt32.toInt32), .val (.int (((XT.ushr p0 (8 : Int32)) &&& (255 : Int32))).toUInt32.toUInt16.toUInt32.toInt32), .val (.int (p3 &&& (3 : Int32))), .val (.ref a189), .unset, .unset, .unset, .unset, .unset] [(.int p3)])) (fun t kt => XS.iloadN X194.here hx rfl (hb hby at_104) rfl kt) ?_
        refine Go.st (S' := T194.setTop (mkF m 106 #[.val (.int p0), .val (.int p1), .val (.int p2), .val (.int p3), .val (.int ((p0 &&& (255 : Int32))).toUInt32.toUInt16.toUInt32.toInt32), .val (.int (((XT.ushr p0 (8 : Int32)) &&& (255 : Int32))).toUInt32.toUInt16.toUInt32.toInt32), .val (.int (p3 &&& (3 : Int32))), .val (.ref a189), .unset, .unset, .unset, .unset, .unset] [(.int (4 : Int32)), (.int p3)])) (fun t kt => XS.iconst X194.here hx rfl (hb hby at_105) kt) ?_
        refine Go.st (S' := T194.setTop (mkF m 107 #[.val (.int p0), .val (.int p1), .val (.int p2), .val (.int p3), .val (.int ((p0 &&& (255 : Int32))).toUInt32.toUInt16.toUInt32.toInt32), .val (.int (((XT.ushr p0 (8 : Int32)) &&& (255 : Int32))).toUInt32.toUInt16.toUInt32.toInt32), .val (.int (p3 &&& (3 : Int32))), .val (.ref a189), .unset, .unset, .unset, .unset, .unset] [(.int (p3 &&& (4 : Int32)))])) (fun t kt => XS.iand X194.here hx rfl (hb hby at_106) rfl kt) ?_
        by_cases hc107_195 : (p3 &&& (4 : Int32)) = 0
        · refine Go.st (S' := T194.setTop (mkF m 114 #[.val (.int p0), .val (.int p1), .val (.int p2), .val (.int p3), .val (.int ((p0 &&& (255 : Int32))).toUInt32.toUInt16.toUInt32.toInt32), .val (.int (((XT.ushr p0 (8 : Int32)) &&& (255 : Int32))).toUInt32.toUInt16.toUInt32.toInt32), .val (.int (p3 &&& (3 : Int32))), .val (.ref a189), .unset, .unset, .unset, .unset, .unset] [])) (fun t kt => XS.ifYes X194.here hx rfl (pc0 := 107) (pc' := 114) rfl (hb hby at_107) rfl (XT.i0_eq_t hc107_195) (by decide) (by decide) kt) ?_
          refine Go.st (S' := T194.setTop (mkF m 115 #[.val (.int p0), .val (.int p1), .val (.int p2), .val (.int p3), .val (.int ((p0 &&& (255 : Int32))).toUInt32.toUInt16.toUInt32.toInt32), .val (.int (((XT.ushr p0 (8 : Int32)) &&& (255 : Int32))).toUInt32.toUInt16.toUInt32.toInt32), .val (.int (p3 &&& (3 : Int32))), .val (.ref a189), .unset, .unset, .unset, .unset, .unset] [(.int (0 : Int32))])) (fun t kt => XS.iconst X194.here hx rfl (hb hby at_114) kt) ?_
          refine Go.st (S' := T194.setTop (mkF m 117 #[.val (.int p0), .val (.int p1), .val (.int p2), .val (.int p3), .val (.int ((p0 &&& (255 : Int32))).toUInt32.toUInt16.toUInt32.toInt32), .val (.int (((XT.ushr p0 (8 : Int32)) &&& (255 : Int32))).toUInt32.toUInt16.toUInt32.toInt32), .val (.int (p3 &&& (3 : Int32))), .val (.ref a189), .val (.int (0 : Int32)), .unset, .unset, .unset, .unset] [])) (fun t kt => XS.istore X194.here hx rfl (hb hby at_115) rfl rfl kt) ?_
          obtain ⟨T196, h196, X196, e196, E196, A196, D196, -, st196⟩ := newO X194 hx hZ hown (hw _ (List.mem_of_getElem? (i := 30) rfl)) (hw _ (List.mem_of_getElem? (i := 31) rfl)) (hw _ (List.mem_of_getElem? (i := 32) rfl)) eh194 (g := (mkF m 117 #[.val (.int p0), .val (.int p1), .val (.int p2), .val (.int p3), .val (.int ((p0 &&& (255 : Int32))).toUInt32.toUInt16.toUInt32.toInt32), .val (.int (((XT.ushr p0 (8 : Int32)) &&& (255 : Int32))).toUInt32.toUInt16.toUInt32.toInt32), .val (.int (p3 &&& (3 : Int32))), .val (.ref a189), .val (.int (0 : Int32)), .unset, .unset, .unset, .unset] [])) rfl (hb hby at_117) (by decide) (by decide)
          obtain ⟨a196, g196⟩ : ∃ z, z = T194.heap.size := ⟨_, rfl⟩
          rw [← g196] at A196 D196 st196
          have Z196 : n0 ≤ h196.size := Nat.le_trans Z194 E196.1
          have f197 := (V190.keep K194' (ninS (Ne.symm (Nat.ne_of_lt (by rw [g190]; exact A189.lt))) nin0))
          have S196 : Safe Z own_EL T194.vm T194.heap a196 := Safe.new (Nat.le_of_eq g196.symm)
          have C196 := CHr.trans C194 (CHr.ext E196 C194.1)
          have hk := Nat.le_trans hk E196.1
          have F196_unit : Fld Z h196 a196 "com/example/seatwright/seatwright/engine/Bucket" "unit" "Ljava/lang/String;" .null := D196 (Or.inr (hw _ (List.mem_of_getElem? (i := 38) rfl))) (ty := (.object "java/lang/String")) (by decide)
          have F196_size : Fld Z h196 a196 "com/example/seatwright/seatwright/engine/Bucket" "size" "I" (.int (0 : Int32)) := D196 (Or.inr (hw _ (List.mem_of_getElem? (i := 40) rfl))) (ty := .int) (by decide)
          have F196_inUse : Fld Z h196 a196 "com/example/seatwright/seatwright/engine/Bucket" "inUse" "I" (.int (0 : Int32)) := D196 (Or.inl (hw _ (List.mem_of_getElem? (i := 42) rfl))) (ty := .int) (by decide)
          have F196_above : Fld Z h196 a196 "com/example/seatwright/seatwright/engine/Bucket" "above" "Lcom/example/seatwright/seatwright/engine/Bucket;" .null := D196 (Or.inl (hw _ (List.mem_of_getElem? (i := 71) rfl))) (ty := (.object "com/example/seatwright/seatwright/engine/Bucket")) (by decide)
          refine Go.st (S' := T196.setTop (mkF m 120 #[.val (.int p0), .val (.int p1), .val (.int p2), .val (.int p3), .val (.int ((p0 &&& (255 : Int32))).toUInt32.toUInt16.toUInt32.toInt32), .val (.int (((XT.ushr p0 (8 : Int32)) &&& (255 : Int32))).toUInt32.toUInt16.toUInt32.toInt32), .val (.int (p3 &&& (3 : Int32))), .val (.ref a189), .val (.int (0 : Int32)), .unset, .unset, .unset, .unset] [(.ref a196)])) (fun t kt => st196 t kt) ?_
          refine Go.st (S' := T196.setTop (mkF m 121 #[.val (.int p0), .val (.int p1), .val (.int p2), .val (.int p3), .val (.int ((p0 &&& (255 : Int32))).toUInt32.toUInt16.toUInt32.toInt32), .val (.int (((XT.ushr p0 (8 : Int32)) &&& (255 : Int32))).toUInt32.toUInt16.toUInt32.toInt32), .val (.int (p3 &&& (3 : Int32))), .val (.ref a189), .val (.int (0 : Int32)), .unset, .unset, .unset, .unset] [(.ref a196), (.ref a196)])) (fun t kt => XS.dup X196.here hx rfl (hb hby at_120) rfl rfl kt) ?_
          refine Go.st (S' := T196.setTop (mkF m 123 #[.val (.int p0), .val (.int p1), .val (.int p2), .val (.int p3), .val (.int ((p0 &&& (255 : Int32))).toUInt32.toUInt16.toUInt32.toInt32), .val (.int (((XT.ushr p0 (8 : Int32)) &&& (255 : Int32))).toUInt32.toUInt16.toUInt32.toInt32), .val (.int (p3 &&& (3 : Int32))), .val (.ref a189), .val (.int (0 : Int32)), .unset, .unset, .unset, .unset] [(.ref a189), (.ref a196), (.ref a196)])) (fun t kt => XS.aload X196.here hx rfl (hb hby at_121) rfl rfl kt) ?_
          refine Go.st (S' := T196.setTop (mkF m 124 #[.val (.int p0), .val (.int p1), .val (.int p2), .val (.int p3), .val (.int ((p0 &&& (255 : Int32))).toUInt32.toUInt16.toUInt32.toInt32), .val (.int (((XT.ushr p0 (8 : Int32)) &&& (255 : Int32))).toUInt32.toUInt16.toUInt32.toInt32), .val (.int (p3 &&& (3 : Int32))), .val (.ref a189), .val (.int (0 : Int32)), .unset, .unset, .unset, .unset] [(.int p1), (.ref a189), (.ref a196), (.ref a196)])) (fun t kt => XS.iloadN X196.here hx rfl (hb hby at_123) rfl kt) ?_
          refine Go.st (S' := T196.setTop (mkF m 125 #[.val (.int p0), .val (.int p1), .val (.int p2), .val (.int p3), .val (.int ((p0 &&& (255 : Int32))).toUInt32.toUInt16.toUInt32.toInt32), .val (.int (((XT.ushr p0 (8 : Int32)) &&& (255 : Int32))).toUInt32.toUInt16.toUInt32.toInt32), .val (.int (p3 &&& (3 : Int32))), .val (.ref a189), .val (.int (0 : Int32)), .unset, .unset, .unset, .unset] [(.int p2), (.int p1), (.ref a189), (.ref a196), (.ref a196)])) (fun t kt => XS.iloadN X196.here hx rfl (hb hby at_124) rfl kt) ?_
          refine Go.init X196 hx hZ rfl hown (hw _ (List.mem_of_getElem? (i := 33) rfl)) (hw _ (List.mem_of_getElem? (i := 34) rfl)) (hw _ (List.mem_of_getElem? (i := 35) rfl)) (hw _ (List.mem_of_getElem? (i := 32) rfl)) (by decide) (b := a196) (argsL := [(.ref a189), (.int p1), (.int p2)]) (rest := [(.ref a196)]) (rm2 l Z a0 hw a196 (.ref a189) rfl p1 p2 h196 n0 Z196 A196 (Nat.le_trans Z194 (Nat.le_of_eq g196.symm)) F196_unit F196_size F196_inUse F196_above) e196 rfl (by rw [hml]; rfl) pd__Ljava_lang_String_II_V rfl (hb hby at_125) 1 (Nat.le_refl _) (by decide) (by decide) (by decide) (by decide) ?_
          intro v198 T198 L198 X198 hQ198
          have f199 := (f194_0.ext E196)
          have f200 := (f197.ext E196)
          have f201 := (f194_3.ext E196)
          have f202 := (Safe.ext E196 C194.1 S196)
          obtain ⟨hv198, N198', K198', f198_0, f198_1, f198_2, f198_3, f198_4⟩ := hQ198
          subst hv198
          have N198 := Fr.app N194 N198'
          have Z198 : n0 ≤ T198.heap.size := Nat.le_trans Z196 K198'.1
          have eh198 : T198.heap = T198.heap := rfl
          have C198 := CHr.trans C196 (CHr.keep K198' (allS f202 all0) C196.1)
          have hk := Nat.le_trans hk K198'.1
          show Go pP eE below _ (T198.setTop (mkF m 128 #[.val (.int p0), .val (.int p1), .val (.int p2), .val (.int p3), .val (.int ((p0 &&& (255 : Int32))).toUInt32.toUInt16.toUInt32.toInt32), .val (.int (((XT.ushr p0 (8 : Int32)) &&& (255 : Int32))).toUInt32.toUInt16.toUInt32.toInt32), .val (.int (p3 &&& (3 : Int32))), .val (.ref a189), .val (.int (0 : Int32)), .unset, .unset, .unset, .unset] [(.ref a196)]))
          refine Go.st (S' := T198.setTop (mkF m 130 #[.val (.int p0), .val (.int p1), .val (.int p2), .val (.int p3), .val (.int ((p0 &&& (255 : Int32))).toUInt32.toUInt16.toUInt32.toInt32), .val (.int (((XT.ushr p0 (8 : Int32)) &&& (255 : Int32))).toUInt32.toUInt16.toUInt32.toInt32), .val (.int (p3 &&& (3 : Int32))), .val (.ref a189), .val (.int (0 : Int32)), .val (.ref a196), .unset, .unset, .unset] [])) (fun t kt => XS.astore X198.here hx rfl (hb hby at_128) rfl rfl rfl kt) ?_
          refine Go.st (S' := T198.setTop (mkF m 132 #[.val (.int p0), .val (.int p1), .val (.int p2), .val (.int p3), .val (.int ((p0 &&& (255 : Int32))).toUInt32.toUInt16.toUInt32.toInt32), .val (.int (((XT.ushr p0 (8 : Int32)) &&& (255 : Int32))).toUInt32.toUInt16.toUInt32.toInt32), .val (.int (p3 &&& (3 : Int32))), .val (.ref a189), .val (.int (0 : Int32)), .val (.ref a196), .unset, .unset, .unset] [(.int (0 : Int32))])) (fun t kt => XS.iload X198.here hx rfl (hb hby at_130) rfl kt) ?_
          refine Go.st (S' := T198.setTop (mkF m 142 #[.val (.int p0), .val (.int p1), .val (.int p2), .val (.int p3), .val (.int ((p0 &&& (255 : Int32))).toUInt32.toUInt16.toUInt32.toInt32), .val (.int (((XT.ushr p0 (8 : Int32)) &&& (255 : Int32))).toUInt32.toUInt16.toUInt32.toInt32), .val (.int (p3 &&& (3 : Int32))), .val (.ref a189), .val (.int (0 : Int32)), .val (.ref a196), .unset, .unset, .unset] [])) (fun t kt => XS.ifYes X198.here hx rfl (pc0 := 132) (pc' := 142) rfl (hb hby at_132) rfl (XT.i0_eq_t (by decide)) (by decide) (by decide) kt) ?_
          refine Go.st (S' := T198.setTop (mkF m 144 #[.val (.int p0), .val (.int p1), .val (.int p2), .val (.int p3), .val (.int ((p0 &&& (255 : Int32))).toUInt32.toUInt16.toUInt32.toInt32), .val (.int (((XT.ushr p0 (8 : Int32)) &&& (255 : Int32))).toUInt32.toUInt16.toUInt32.toInt32), .val (.int (p3 &&& (3 : Int32))), .val (.ref a189), .val (.int (0 : Int32)), .val (.ref a196), .unset, .unset, .unset] [(.ref a196)])) (fun t kt => XS.aload X198.here hx rfl (hb hby at_142) rfl rfl kt) ?_
          refine Go.virt X198 hx hZ hown (hw _ (List.mem_of_getElem? (i := 43) rfl)) (hw _ (List.mem_of_getElem? (i := 44) rfl)) (notFace_of_selects (mvT (args := #[]) hZ (hw _ (List.mem_of_getElem? (i := 46) rfl)))) (hw _ (List.mem_of_getElem? (i := 46) rfl)) (hw _ (List.mem_of_getElem? (i := 45) rfl)) (hw _ (List.mem_of_getElem? (i := 47) rfl)) (hw _ (List.mem_of_getElem? (i := 32) rfl)) (by decide) (b := a196) (argsL := []) (rest := []) (rm3 l Z a0 hw a196 (.ref a189) rfl p1 p2 .null rfl T198.heap n0 Z198 f198_0 (Nat.le_trans Z194 (Nat.le_of_eq g196.symm)) f198_1 f198_2 f198_3 f198_4) eh198 f198_0 rfl (by rw [hml]; rfl) pd___Lcom_example_seatwright_seatwright_engine_Bucket_ rfl (hb hby at_144) 0 (Nat.le_refl _) (by decide) (by decide) (by decide) (by decide) ?_
          intro v203 T203 L203 X203 hQ203
          have f204 := (f199.keep K198')
          have f205 := (f200.keep K198' (ninS (Nat.ne_of_lt (by rw [g196]; exact f197.lt)) nin0))
          have f206 := (f201.keep K198' (ninS (Nat.ne_of_lt (by rw [g196]; exact f194_3.lt)) nin0))
          obtain ⟨b203, hv203, N203', K203', y203_0, u203_0, f203_0, f203_1, f203_2, f203_3, f203_4⟩ := hQ203
          subst hv203
          have N203 := Fr.app N198 N203'
          have Z203 : n0 ≤ T203.heap.size := Nat.le_trans Z198 K203'.1
          have eh203 : T203.heap = T203.heap := rfl
          have C203 := CHr.trans C198 (CHr.keep K203' all0 C198.1)
          have hk := Nat.le_trans hk K203'.1
          show Go pP eE below _ (T203.setTop (mkF m 147 #[.val (.int p0), .val (.int p1), .val (.int p2), .val (.int p3), .val (.int ((p0 &&& (255 : Int32))).toUInt32.toUInt16.toUInt32.toInt32), .val (.int (((XT.ushr p0 (8 : Int32)) &&& (255 : Int32))).toUInt32.toUInt16.toUInt32.toInt32), .val (.int (p3 &&& (3 : Int32))), .val (.ref a189), .val (.int (0 : Int32)), .val (.ref a196), .unset, .unset, .unset] [(.ref b203)]))
          refine Go.st (S' := T203.setTop (mkF m 149 #[.val (.int p0), .val (.int p1), .val (.int p2), .val (.int p3), .val (.int ((p0 &&& (255 : Int32))).toUInt32.toUInt16.toUInt32.toInt32), .val (.int (((XT.ushr p0 (8 : Int32)) &&& (255 : Int32))).toUInt32.toUInt16.toUInt32.toInt32), .val (.int (p3 &&& (3 : Int32))), .val (.ref a189), .val (.int (0 : Int32)), .val (.ref a196), .val (.ref b203), .unset, .unset] [])) (fun t kt => XS.astore X203.here hx rfl (hb hby at_147) rfl rfl rfl kt) ?_
          refine Go.st (S' := T203.setTop (mkF m 151 #[.val (.int p0), .val (.int p1), .val (.int p2), .val (.int p3), .val (.int ((p0 &&& (255 : Int32))).toUInt32.toUInt16.toUInt32.toInt32), .val (.int (((XT.ushr p0 (8 : Int32)) &&& (255 : Int32))).toUInt32.toUInt16.toUInt32.toInt32), .val (.int (p3 &&& (3 : Int32))), .val (.ref a189), .val (.int (0 : Int32)), .val (.ref a196), .val (.ref b203), .unset, .unset] [(.ref b203)])) (fun t kt => XS.aload X203.here hx rfl (hb hby at_149) rfl rfl kt) ?_
          refine Go.st (S' := T203.setTop (mkF m 154 #[.val (.int p0), .val (.int p1), .val (.int p2), .val (.int p3), .val (.int ((p0 &&& (255 : Int32))).toUInt32.toUInt16.toUInt32.toInt32), .val (.int (((XT.ushr p0 (8 : Int32)) &&& (255 : Int32))).toUInt32.toUInt16.toUInt32.toInt32), .val (.int (p3 &&& (3 : Int32))), .val (.ref a189), .val (.int (0 : Int32)), .val (.ref a196), .val (.ref b203), .unset, .unset] [])) (fun t kt => XS.ifnullNo X203.here hx rfl (hb hby at_151) rfl kt) ?_
          refine Go.st (S' := T203.setTop (mkF m 156 #[.val (.int p0), .val (.int p1), .val (.int p2), .val (.int p3), .val (.int ((p0 &&& (255 : Int32))).toUInt32.toUInt16.toUInt32.toInt32), .val (.int (((XT.ushr p0 (8 : Int32)) &&& (255 : Int32))).toUInt32.toUInt16.toUInt32.toInt32), .val (.int (p3 &&& (3 : Int32))), .val (.ref a189), .val (.int (0 : Int32)), .val (.ref a196), .val (.ref b203), .unset, .unset] [(.ref b203)])) (fun t kt => XS.aload X203.here hx rfl (hb hby at_154) rfl rfl kt) ?_
          refine Go.st (S' := T203.setTop (mkF m 158 #[.val (.int p0), .val (.int p1), .val (.int p2), .val (.int p3), .val (.int ((p0 &&& (255 : Int32))).toUInt32.toUInt16.toUInt32.toInt32), .val (.int (((XT.ushr p0 (8 : Int32)) &&& (255 : Int32))).toUInt32.toUInt16.toUInt32.toInt32), .val (.int (p3 &&& (3 : Int32))), .val (.ref a189), .val (.int (0 : Int32)), .val (.ref a196), .val (.ref b203), .unset, .unset] [(.ref a196), (.ref b203)])) (fun t kt => XS.aload X203.here hx rfl (hb hby at_156) rfl rfl kt) ?_
          refine Go.st (S' := T203.setTop (mkF m 163 #[.val (.int p0), .val (.int p1), .val (.int p2), .val (.int p3), .val (.int ((p0 &&& (255 : Int32))).toUInt32.toUInt16.toUInt32.toInt32), .val (.int (((XT.ushr p0 (8 : Int32)) &&& (255 : Int32))).toUInt32.toUInt16.toUInt32.toInt32), .val (.int (p3 &&& (3 : Int32))), .val (.ref a189), .val (.int (0 : Int32)), .val (.ref a196), .val (.ref b203), .unset, .unset] [])) (fun t kt => XT.acmpYes X203.here hx rfl (pc0 := 158) (pc' := 163) rfl (hb hby at_158) rfl rfl rfl (XT.aa_ne_t (fun q => (Ne.symm (Nat.ne_of_lt (Nat.lt_of_lt_of_le f198_0.lt y203_0))) (Value.ref.inj q))) (by decide) (by decide) kt) ?_
          refine Go.st (S' := T203.setTop (mkF m 165 #[.val (.int p0), .val (.int p1), .val (.int p2), .val (.int p3), .val (.int ((p0 &&& (255 : Int32))).toUInt32.toUInt16.toUInt32.toInt32), .val (.int (((XT.ushr p0 (8 : Int32)) &&& (255 : Int32))).toUInt32.toUInt16.toUInt32.toInt32), .val (.int (p3 &&& (3 : Int32))), .val (.ref a189), .val (.int (0 : Int32)), .val (.ref a196), .val (.ref b203), .unset, .unset] [(.ref b203)])) (fun t kt => XS.aload X203.here hx rfl (hb hby at_163) rfl rfl kt) ?_
          refine Go.virt X203 hx hZ hown (hw _ (List.mem_of_getElem? (i := 50) rfl)) (hw _ (List.mem_of_getElem? (i := 51) rfl)) (notFace_of_selects (mvT (args := #[]) hZ (hw _ (List.mem_of_getElem? (i := 53) rfl)))) (hw _ (List.mem_of_getElem? (i := 53) rfl)) (hw _ (List.mem_of_getElem? (i := 52) rfl)) (hw _ (List.mem_of_getElem? (i := 54) rfl)) (hw _ (List.mem_of_getElem? (i := 32) rfl)) (by decide) (b := b203) (argsL := []) (rest := []) (rm6 l Z a0 hw b203 (.ref a189) rfl T203.heap n0 Z203 f203_1) eh203 f203_0 rfl (by rw [hml]; rfl) pd___Ljava_lang_String_ rfl (hb hby at_165) 0 (Nat.le_refl _) (by decide) (by decide) (by decide) (by decide) ?_
          intro v207 T207 L207 X207 hQ207
          obtain ⟨hv207, N207', e207⟩ := hQ207
          subst hv207
          have N207 := Fr.app N203 N207'
          show Go pP eE below _ (T207.setTop (mkF m 168 #[.val (.int p0), .val (.int p1), .val (.int p2), .val (.int p3), .val (.int ((p0 &&& (255 : Int32))).toUInt32.toUInt16.toUInt32.toInt32), .val (.int (((XT.ushr p0 (8 : Int32)) &&& (255 : Int32))).toUInt32.toUInt16.toUInt32.toInt32), .val (.int (p3 &&& (3 : Int32))), .val (.ref a189), .val (.int (0 : Int32)), .val (.ref a196), .val (.ref b203), .unset, .unset] [(.ref a189)]))
          refine Go.st (S' := T207.setTop (mkF m 170 #[.val (.int p0), .val (.int p1), .val (.int p2), .val (.int p3), .val (.int ((p0 &&& (255 : Int32))).toUInt32.toUInt16.toUInt32.toInt32), .val (.int (((XT.ushr p0 (8 : Int32)) &&& (255 : Int32))).toUInt32.toUInt16.toUInt32.toInt32), .val (.int (p3 &&& (3 : Int32))), .val (.ref a189), .val (.int (0 : Int32)), .val (.ref a196), .val (.ref b203), .unset, .unset] [(.ref a189), (.ref a189)])) (fun t kt => XS.aload X207.here hx rfl (hb hby at_168) rfl rfl kt) ?_
          refine Go.st (S' := T207.setTop (mkF m 173 #[.val (.int p0), .val (.int p1), .val (.int p2), .val (.int p3), .val (.int ((p0 &&& (255 : Int32))).toUInt32.toUInt16.toUInt32.toInt32), .val (.int (((XT.ushr p0 (8 : Int32)) &&& (255 : Int32))).toUInt32.toUInt16.toUInt32.toInt32), .val (.int (p3 &&& (3 : Int32))), .val (.ref a189), .val (.int (0 : Int32)), .val (.ref a196), .val (.ref b203), .unset, .unset] [])) (fun t kt => XT.acmpNo X207.here hx rfl (hb hby at_170) rfl rfl rfl (XT.aa_ne_f rfl) kt) ?_
          refine Go.st (S' := T207.setTop (mkF m 175 #[.val (.int p0), .val (.int p1), .val (.int p2), .val (.int p3), .val (.int ((p0 &&& (255 : Int32))).toUInt32.toUInt16.toUInt32.toInt32), .val (.int (((XT.ushr p0 (8 : Int32)) &&& (255 : Int32))).toUInt32.toUInt16.toUInt32.toInt32), .val (.int (p3 &&& (3 : Int32))), .val (.ref a189), .val (.int (0 : Int32)), .val (.ref a196), .val (.ref b203), .unset, .unset] [(.ref b203)])) (fun t kt => XS.aload X207.here hx rfl (hb hby at_173) rfl rfl kt) ?_
          refine Go.virt X207 hx hZ hown (hw _ (List.mem_of_getElem? (i := 55) rfl)) (hw _ (List.mem_of_getElem? (i := 56) rfl)) (notFace_of_selects (mvT (args := #[]) hZ (hw _ (List.mem_of_getElem? (i := 58) rfl)))) (hw _ (List.mem_of_getElem? (i := 58) rfl)) (hw _ (List.mem_of_getElem? (i := 57) rfl)) (hw _ (List.mem_of_getElem? (i := 59) rfl)) (hw _ (List.mem_of_getElem? (i := 32) rfl)) (by decide) (b := b203) (argsL := []) (rest := []) (rm7 l Z a0 hw b203 p1 T203.heap n0 Z203 f203_2) e207 f203_0 rfl (by rw [hml]; rfl) pd___I rfl (hb hby at_175) 0 (Nat.le_refl _) (by decide) (by decide) (by decide) (by decide) ?_
          intro v208 T208 L208 X208 hQ208
          obtain ⟨hv208, N208', e208⟩ := hQ208
          subst hv208
          have N208 := Fr.app N207 N208'
          show Go pP eE below _ (T208.setTop (mkF m 178 #[.val (.int p0), .val (.int p1), .val (.int p2), .val (.int p3), .val (.int ((p0 &&& (255 : Int32))).toUInt32.toUInt16.toUInt32.toInt32), .val (.int (((XT.ushr p0 (8 : Int32)) &&& (255 : Int32))).toUInt32.toUInt16.toUInt32.toInt32), .val (.int (p3 &&& (3 : Int32))), .val (.ref a189), .val (.int (0 : Int32)), .val (.ref a196), .val (.ref b203), .unset, .unset] [(.int p1)]))
          refine Go.st (S' := T208.setTop (mkF m 179 #[.val (.int p0), .val (.int p1), .val (.int p2), .val (.int p3), .val (.int ((p0 &&& (255 : Int32))).toUInt32.toUInt16.toUInt32.toInt32), .val (.int (((XT.ushr p0 (8 : Int32)) &&& (255 : Int32))).toUInt32.toUInt16.toUInt32.toInt32), .val (.int (p3 &&& (3 : Int32))), .val (.ref a189), .val (.int (0 : Int32)), .val (.ref a196), .val (.ref b203), .unset, .unset] [(.int p1), (.int p1)])) (fun t kt => XS.iloadN X208.here hx rfl (hb hby at_178) rfl kt) ?_
          refine Go.st (S' := T208.setTop (mkF m 182 #[.val (.int p0), .val (.int p1), .val (.int p2), .val (.int p3), .val (.int ((p0 &&& (255 : Int32))).toUInt32.toUInt16.toUInt32.toInt32), .val (.int (((XT.ushr p0 (8 : Int32)) &&& (255 : Int32))).toUInt32.toUInt16.toUInt32.toInt32), .val (.int (p3 &&& (3 : Int32))), .val (.ref a189), .val (.int (0 : Int32)), .val (.ref a196), .val (.ref b203), .unset, .unset] [])) (fun t kt => XS.icmpNo X208.here hx rfl (hb hby at_179) rfl (XT.ii_ne_f rfl) kt) ?_
          refine Go.st (S' := T208.setTop (mkF m 184 #[.val (.int p0), .val (.int p1), .val (.int p2), .val (.int p3), .val (.int ((p0 &&& (255 : Int32))).toUInt32.toUInt16.toUInt32.toInt32), .val (.int (((XT.ushr p0 (8 : Int32)) &&& (255 : Int32))).toUInt32.toUInt16.toUInt32.toInt32), .val (.int (p3 &&& (3 : Int32))), .val (.ref a189), .val (.int (0 : Int32)), .val (.ref a196), .val (.ref b203), .unset, .unset] [(.ref b203)])) (fun t kt => XS.aload X208.here hx rfl (hb hby at_182) rfl rfl kt) ?_
          refine Go.virt X208 hx hZ hown (hw _ (List.mem_of_getElem? (i := 60) rfl)) (hw _ (List.mem_of_getElem? (i := 61) rfl)) (notFace_of_selects (mvT (args := #[]) hZ (hw _ (List.mem_of_getElem? (i := 63) rfl)))) (hw _ (List.mem_of_getElem? (i := 63) rfl)) (hw _ (List.mem_of_getElem? (i := 62) rfl)) (hw _ (List.mem_of_getElem? (i := 64) rfl)) (hw _ (List.mem_of_getElem? (i := 32) rfl)) (by decide) (b := b203) (argsL := []) (rest := []) (rm8 l Z a0 hw b203 p2 T203.heap n0 Z203 f203_3) e208 f203_0 rfl (by rw [hml]; rfl) pd___I rfl (hb hby at_184) 0 (Nat.le_refl _) (by decide) (by decide) (by decide) (by decide) ?_
          intro v209 T209 L209 X209 hQ209
          obtain ⟨hv209, N209', e209⟩ := hQ209
          subst hv209
          have N209 := Fr.app N208 N209'
          show Go pP eE below _ (T209.setTop (mkF m 187 #[.val (.int p0), .val (.int p1), .val (.int p2), .val (.int p3), .val (.int ((p0 &&& (255 : Int32))).toUInt32.toUInt16.toUInt32.toInt32), .val (.int (((XT.ushr p0 (8 : Int32)) &&& (255 : Int32))).toUInt32.toUInt16.toUInt32.toInt32), .val (.int (p3 &&& (3 : Int32))), .val (.ref a189), .val (.int (0 : Int32)), .val (.ref a196), .val (.ref b203), .unset, .unset] [(.int p2)]))
          refine Go.st (S' := T209.setTop (mkF m 188 #[.val (.int p0), .val (.int p1), .val (.int p2), .val (.int p3), .val (.int ((p0 &&& (255 : Int32))).toUInt32.toUInt16.toUInt32.toInt32), .val (.int (((XT.ushr p0 (8 : Int32)) &&& (255 : Int32))).toUInt32.toUInt16.toUInt32.toInt32), .val (.int (p3 &&& (3 : Int32))), .val (.ref a189), .val (.int (0 : Int32)), .val (.ref a196), .val (.ref b203), .unset, .unset] [(.int p2), (.int p2)])) (fun t kt => XS.iloadN X209.here hx rfl (hb hby at_187) rfl kt) ?_
          refine Go.st (S' := T209.setTop (mkF m 191 #[.val (.int p0), .val (.int p1), .val (.int p2), .val (.int p3), .val (.int ((p0 &&& (255 : Int32))).toUInt32.toUInt16.toUInt32.toInt32), .val (.int (((XT.ushr p0 (8 : Int32)) &&& (255 : Int32))).toUInt32.toUInt16.toUInt32.toInt32), .val (.int (p3 &&& (3 : Int32))), .val (.ref a189), .val (.int (0 : Int32)), .val (.ref a196), .val (.ref b203), .unset, .unset] [])) (fun t kt => XS.icmpNo X209.here hx rfl (hb hby at_188) rfl (XT.ii_ne_f rfl) kt) ?_
          refine Go.st (S' := T209.setTop (mkF m 193 #[.val (.int p0), .val (.int p1), .val (.int p2), .val (.int p3), .val (.int ((p0 &&& (255 : Int32))).toUInt32.toUInt16.toUInt32.toInt32), .val (.int (((XT.ushr p0 (8 : Int32)) &&& (255 : Int32))).toUInt32.toUInt16.toUInt32.toInt32), .val (.int (p3 &&& (3 : Int32))), .val (.ref a189), .val (.int (0 : Int32)), .val (.ref a196), .val (.ref b203), .unset, .unset] [(.ref b203)])) (fun t kt => XS.aload X209.here hx rfl (hb hby at_191) rfl rfl kt) ?_
          refine Go.virt X209 hx hZ hown (hw _ (List.mem_of_getElem? (i := 65) rfl)) (hw _ (List.mem_of_getElem? (i := 66) rfl)) (notFace_of_selects (mvT (args := #[]) hZ (hw _ (List.mem_of_getElem? (i := 68) rfl)))) (hw _ (List.mem_of_getElem? (i := 68) rfl)) (hw _ (List.mem_of_getElem? (i := 67) rfl)) (hw _ (List.mem_of_getElem? (i := 69) rfl)) (hw _ (List.mem_of_getElem? (i := 32) rfl)) (by decide) (b := b203) (argsL := []) (rest := []) (rm9 l Z a0 hw b203 .null rfl T203.heap n0 Z203 f203_4) e209 f203_0 rfl (by rw [hml]; rfl) pd___Lcom_example_seatwright_seatwright_engine_Bucket_ rfl (hb hby at_193) 0 (Nat.le_refl _) (by decide) (by decide) (by decide) (by decide) ?_
          intro v210 T210 L210 X210 hQ210
          obtain ⟨hv210, N210', e210⟩ := hQ210
          subst hv210
          have N210 := Fr.app N209 N210'
          show Go pP eE below _ (T210.setTop (mkF m 196 #[.val (.int p0), .val (.int p1), .val (.int p2), .val (.int p3), .val (.int ((p0 &&& (255 : Int32))).toUInt32.toUInt16.toUInt32.toInt32), .val (.int (((XT.ushr p0 (8 : Int32)) &&& (255 : Int32))).toUInt32.toUInt16.toUInt32.toInt32), .val (.int (p3 &&& (3 : Int32))), .val (.ref a189), .val (.int (0 : Int32)), .val (.ref a196), .val (.ref b203), .unset, .unset] [.null]))
          refine Go.st (S' := T210.setTop (mkF m 199 #[.val (.int p0), .val (.int p1), .val (.int p2), .val (.int p3), .val (.int ((p0 &&& (255 : Int32))).toUInt32.toUInt16.toUInt32.toInt32), .val (.int (((XT.ushr p0 (8 : Int32)) &&& (255 : Int32))).toUInt32.toUInt16.toUInt32.toInt32), .val (.int (p3 &&& (3 : Int32))), .val (.ref a189), .val (.int (0 : Int32)), .val (.ref a196), .val (.ref b203), .unset, .unset] [])) (fun t kt => XT.ifnonnullNo X210.here hx rfl (hb hby at_196) rfl kt) ?_
          refine Go.st (S' := T210.setTop (mkF m 200 #[.val (.int p0), .val (.int p1), .val (.int p2), .val (.int p3), .val (.int ((p0 &&& (255 : Int32))).toUInt32.toUInt16.toUInt32.toInt32), .val (.int (((XT.ushr p0 (8 : Int32)) &&& (255 : Int32))).toUInt32.toUInt16.toUInt32.toInt32), .val (.int (p3 &&& (3 : Int32))), .val (.ref a189), .val (.int (0 : Int32)), .val (.ref a196), .val (.ref b203), .unset, .unset] [(.int (1 : Int32))])) (fun t kt => XS.iconst X210.here hx rfl (hb hby at_199) kt) ?_
          refine Go.st (S' := T210.setTop (mkF m 204 #[.val (.int p0), .val (.int p1), .val (.int p2), .val (.int p3), .val (.int ((p0 &&& (255 : Int32))).toUInt32.toUInt16.toUInt32.toInt32), .val (.int (((XT.ushr p0 (8 : Int32)) &&& (255 : Int32))).toUInt32.toUInt16.toUInt32.toInt32), .val (.int (p3 &&& (3 : Int32))), .val (.ref a189), .val (.int (0 : Int32)), .val (.ref a196), .val (.ref b203), .unset, .unset] [(.int (1 : Int32))])) (fun t kt => XS.goto X210.here hx rfl (pc0 := 200) (pc' := 204) rfl (hb hby at_200) (by decide) (by decide) kt) ?_
          refine Go.st (S' := T210.setTop (mkF m 206 #[.val (.int p0), .val (.int p1), .val (.int p2), .val (.int p3), .val (.int ((p0 &&& (255 : Int32))).toUInt32.toUInt16.toUInt32.toInt32), .val (.int (((XT.ushr p0 (8 : Int32)) &&& (255 : Int32))).toUInt32.toUInt16.toUInt32.toInt32), .val (.int (p3 &&& (3 : Int32))), .val (.ref a189), .val (.int (0 : Int32)), .val (.ref a196), .val (.ref b203), .val (.int (1 : Int32)), .unset] [])) (fun t kt => XS.istore X210.here hx rfl (hb hby at_204) rfl rfl kt) ?_
          refine Go.st (S' := T210.setTop (mkF m 208 #[.val (.int p0), .val (.int p1), .val (.int p2), .val (.int p3), .val (.int ((p0 &&& (255 : Int32))).toUInt32.toUInt16.toUInt32.toInt32), .val (.int (((XT.ushr p0 (8 : Int32)) &&& (255 : Int32))).toUInt32.toUInt16.toUInt32.toInt32), .val (.int (p3 &&& (3 : Int32))), .val (.ref a189), .val (.int (0 : Int32)), .val (.ref a196), .val (.ref b203), .val (.int (1 : Int32)), .unset] [(.ref a196)])) (fun t kt => XS.aload X210.here hx rfl (hb hby at_206) rfl rfl kt) ?_
          have f211 := (f198_0.keep K203')
          have f212 := (f198_1.keep K203' nin0)
          have f213 := (f198_2.keep K203' nin0)
          have f214 := (f198_3.keep K203' nin0)
          have f215 := (f198_4.keep K203' nin0)
          refine Go.virt X210 hx hZ hown (hw _ (List.mem_of_getElem? (i := 72) rfl)) (hw _ (List.mem_of_getElem? (i := 73) rfl)) (notFace_of_selects (mvT (args := #[]) hZ (hw _ (List.mem_of_getElem? (i := 75) rfl)))) (hw _ (List.mem_of_getElem? (i := 75) rfl)) (hw _ (List.mem_of_getElem? (i := 74) rfl)) (hw _ (List.mem_of_getElem? (i := 76) rfl)) (hw _ (List.mem_of_getElem? (i := 32) rfl)) (by decide) (b := a196) (argsL := []) (rest := []) (rm4 l Z a0 hw a196 (.ref a189) rfl p1 p2 .null rfl T203.heap n0 Z203 f211 (Nat.le_trans Z194 (Nat.le_of_eq g196.symm)) f212 f213 f214 f215) e210 f211 rfl (by rw [hml]; rfl) pd___V rfl (hb hby at_208) 0 (Nat.le_refl _) (by decide) (by decide) (by decide) (by decide) ?_
          intro v216 T216 L216 X216 hQ216
          have f217 := (f204.keep K203')
          have f218 := (f205.keep K203' nin0)
          have f219 := (f206.keep K203' nin0)
          have f220 := (Safe.keep K203' all0 C198.1 (Safe.keep K198' (allS f202 all0) C196.1 f202))
          obtain ⟨hv216, N216', K216', f216_0, f216_1, f216_2, f216_3, f216_4⟩ := hQ216
          subst hv216
          have N216 := Fr.app N210 N216'
          have Z216 : n0 ≤ T216.heap.size := Nat.le_trans Z203 K216'.1
          have eh216 : T216.heap = T216.heap := rfl
          have C216 := CHr.trans C203 (CHr.keep K216' (allS f220 all0) C203.1)
          have hk := Nat.le_trans hk K216'.1
          show Go pP eE below _ (T216.setTop (mkF m 211 #[.val (.int p0), .val (.int p1), .val (.int p2), .val (.int p3), .val (.int ((p0 &&& (255 : Int32))).toUInt32.toUInt16.toUInt32.toInt32), .val (.int (((XT.ushr p0 (8 : Int32)) &&& (255 : Int32))).toUInt32.toUInt16.toUInt32.toInt32), .val (.int (p3 &&& (3 : Int32))), .val (.ref a189), .val (.int (0 : Int32)), .val (.ref a196), .val (.ref b203), .val (.int (1 : Int32)), .unset] []))
          refine Go.st (S' := T216.setTop (mkF m 213 #[.val (.int p0), .val (.int p1), .val (.int p2), .val (.int p3), .val (.int ((p0 &&& (255 : Int32))).toUInt32.toUInt16.toUInt32.toInt32), .val (.int (((XT.ushr p0 (8 : Int32)) &&& (255 : Int32))).toUInt32.toUInt16.toUInt32.toInt32), .val (.int (p3 &&& (3 : Int32))), .val (.ref a189), .val (.int (0 : Int32)), .val (.ref a196), .val (.ref b203), .val (.int (1 : Int32)), .unset] [(.ref b203)])) (fun t kt => XS.aload X216.here hx rfl (hb hby at_211) rfl rfl kt) ?_
          have f221 := (f203_3.keep K216' (ninS (Ne.symm (Nat.ne_of_lt (Nat.lt_of_lt_of_le f198_0.lt y203_0))) nin0))
          have f223 := (f203_0.keep K216')
          refine Go.virt X216 hx hZ hown (hw _ (List.mem_of_getElem? (i := 60) rfl)) (hw _ (List.mem_of_getElem? (i := 61) rfl)) (notFace_of_selects (mvT (args := #[]) hZ (hw _ (List.mem_of_getElem? (i := 63) rfl)))) (hw _ (List.mem_of_getElem? (i := 63) rfl)) (hw _ (List.mem_of_getElem? (i := 62) rfl)) (hw _ (List.mem_of_getElem? (i := 64) rfl)) (hw _ (List.mem_of_getElem? (i := 32) rfl)) (by decide) (b := b203) (argsL := []) (rest := []) (rm8 l Z a0 hw b203 p2 T216.heap n0 Z216 f221) eh216 f223 rfl (by rw [hml]; rfl) pd___I rfl (hb hby at_213) 0 (Nat.le_refl _) (by decide) (by decide) (by decide) (by decide) ?_
          intro v222 T222 L222 X222 hQ222
          obtain ⟨hv222, N222', e222⟩ := hQ222
          subst hv222
          have N222 := Fr.app N216 N222'
          show Go pP eE below _ (T222.setTop (mkF m 216 #[.val (.int p0), .val (.int p1), .val (.int p2), .val (.int p3), .val (.int ((p0 &&& (255 : Int32))).toUInt32.toUInt16.toUInt32.toInt32), .val (.int (((XT.ushr p0 (8 : Int32)) &&& (255 : Int32))).toUInt32.toUInt16.toUInt32.toInt32), .val (.int (p3 &&& (3 : Int32))), .val (.ref a189), .val (.int (0 : Int32)), .val (.ref a196), .val (.ref b203), .val (.int (1 : Int32)), .unset] [(.int p2)]))
          refine Go.st (S' := T222.setTop (mkF m 217 #[.val (.int p0), .val (.int p1), .val (.int p2), .val (.int p3), .val (.int ((p0 &&& (255 : Int32))).toUInt32.toUInt16.toUInt32.toInt32), .val (.int (((XT.ushr p0 (8 : Int32)) &&& (255 : Int32))).toUInt32.toUInt16.toUInt32.toInt32), .val (.int (p3 &&& (3 : Int32))), .val (.ref a189), .val (.int (0 : Int32)), .val (.ref a196), .val (.ref b203), .val (.int (1 : Int32)), .unset] [(.int p2), (.int p2)])) (fun t kt => XS.iloadN X222.here hx rfl (hb hby at_216) rfl kt) ?_
          refine Go.st (S' := T222.setTop (mkF m 220 #[.val (.int p0), .val (.int p1), .val (.int p2), .val (.int p3), .val (.int ((p0 &&& (255 : Int32))).toUInt32.toUInt16.toUInt32.toInt32), .val (.int (((XT.ushr p0 (8 : Int32)) &&& (255 : Int32))).toUInt32.toUInt16.toUInt32.toInt32), .val (.int (p3 &&& (3 : Int32))), .val (.ref a189), .val (.int (0 : Int32)), .val (.ref a196), .val (.ref b203), .val (.int (1 : Int32)), .unset] [])) (fun t kt => XS.icmpNo X222.here hx rfl (hb hby at_217) rfl (XT.ii_ne_f rfl) kt) ?_
          refine Go.st (S' := T222.setTop (mkF m 221 #[.val (.int p0), .val (.int p1), .val (.int p2), .val (.int p3), .val (.int ((p0 &&& (255 : Int32))).toUInt32.toUInt16.toUInt32.toInt32), .val (.int (((XT.ushr p0 (8 : Int32)) &&& (255 : Int32))).toUInt32.toUInt16.toUInt32.toInt32), .val (.int (p3 &&& (3 : Int32))), .val (.ref a189), .val (.int (0 : Int32)), .val (.ref a196), .val (.ref b203), .val (.int (1 : Int32)), .unset] [(.int (1 : Int32))])) (fun t kt => XS.iconst X222.here hx rfl (hb hby at_220) kt) ?_
          refine Go.st (S' := T222.setTop (mkF m 225 #[.val (.int p0), .val (.int p1), .val (.int p2), .val (.int p3), .val (.int ((p0 &&& (255 : Int32))).toUInt32.toUInt16.toUInt32.toInt32), .val (.int (((XT.ushr p0 (8 : Int32)) &&& (255 : Int32))).toUInt32.toUInt16.toUInt32.toInt32), .val (.int (p3 &&& (3 : Int32))), .val (.ref a189), .val (.int (0 : Int32)), .val (.ref a196), .val (.ref b203), .val (.int (1 : Int32)), .unset] [(.int (1 : Int32))])) (fun t kt => XS.goto X222.here hx rfl (pc0 := 221) (pc' := 225) rfl (hb hby at_221) (by decide) (by decide) kt) ?_
          refine Go.st (S' := T222.setTop (mkF m 227 #[.val (.int p0), .val (.int p1), .val (.int p2), .val (.int p3), .val (.int ((p0 &&& (255 : Int32))).toUInt32.toUInt16.toUInt32.toInt32), .val (.int (((XT.ushr p0 (8 : Int32)) &&& (255 : Int32))).toUInt32.toUInt16.toUInt32.toInt32), .val (.int (p3 &&& (3 : Int32))), .val (.ref a189), .val (.int (0 : Int32)), .val (.ref a196), .val (.ref b203), .val (.int (1 : Int32)), .val (.int (1 : Int32))] [])) (fun t kt => XS.istore X222.here hx rfl (hb hby at_225) rfl rfl kt) ?_
          refine Go.st (S' := T222.setTop (mkF m 229 #[.val (.int p0), .val (.int p1), .val (.int p2), .val (.int p3), .val (.int ((p0 &&& (255 : Int32))).toUInt32.toUInt16.toUInt32.toInt32), .val (.int (((XT.ushr p0 (8 : Int32)) &&& (255 : Int32))).toUInt32.toUInt16.toUInt32.toInt32), .val (.int (p3 &&& (3 : Int32))), .val (.ref a189), .val (.int (0 : Int32)), .val (.ref a196), .val (.ref b203), .val (.int (1 : Int32)), .val (.int (1 : Int32))] [(.int (1 : Int32))])) (fun t kt => XS.iload X222.here hx rfl (hb hby at_227) rfl kt) ?_
          refine Go.st (S' := T222.setTop (mkF m 232 #[.val (.int p0), .val (.int p1), .val (.int p2), .val (.int p3), .val (.int ((p0 &&& (255 : Int32))).toUInt32.toUInt16.toUInt32.toInt32), .val (.int (((XT.ushr p0 (8 : Int32)) &&& (255 : Int32))).toUInt32.toUInt16.toUInt32.toInt32), .val (.int (p3 &&& (3 : Int32))), .val (.ref a189), .val (.int (0 : Int32)), .val (.ref a196), .val (.ref b203), .val (.int (1 : Int32)), .val (.int (1 : Int32))] [])) (fun t kt => XS.ifNo X222.here hx rfl (hb hby at_229) rfl (XT.i0_eq_f (by decide)) kt) ?_
          refine Go.st (S' := T222.setTop (mkF m 234 #[.val (.int p0), .val (.int p1), .val (.int p2), .val (.int p3), .val (.int ((p0 &&& (255 : Int32))).toUInt32.toUInt16.toUInt32.toInt32), .val (.int (((XT.ushr p0 (8 : Int32)) &&& (255 : Int32))).toUInt32.toUInt16.toUInt32.toInt32), .val (.int (p3 &&& (3 : Int32))), .val (.ref a189), .val (.int (0 : Int32)), .val (.ref a196), .val (.ref b203), .val (.int (1 : Int32)), .val (.int (1 : Int32))] [(.int (1 : Int32))])) (fun t kt => XS.iload X222.here hx rfl (hb hby at_232) rfl kt) ?_
          refine Go.st (S' := T222.setTop (mkF m 237 #[.val (.int p0), .val (.int p1), .val (.int p2), .val (.int p3), .val (.int ((p0 &&& (255 : Int32))).toUInt32.toUInt16.toUInt32.toInt32), .val (.int (((XT.ushr p0 (8 : Int32)) &&& (255 : Int32))).toUInt32.toUInt16.toUInt32.toInt32), .val (.int (p3 &&& (3 : Int32))), .val (.ref a189), .val (.int (0 : Int32)), .val (.ref a196), .val (.ref b203), .val (.int (1 : Int32)), .val (.int (1 : Int32))] [])) (fun t kt => XS.ifNo X222.here hx rfl (hb hby at_234) rfl (XT.i0_eq_f (by decide)) kt) ?_
          refine Go.st (S' := T222.setTop (mkF m 238 #[.val (.int p0), .val (.int p1), .val (.int p2), .val (.int p3), .val (.int ((p0 &&& (255 : Int32))).toUInt32.toUInt16.toUInt32.toInt32), .val (.int (((XT.ushr p0 (8 : Int32)) &&& (255 : Int32))).toUInt32.toUInt16.toUInt32.toInt32), .val (.int (p3 &&& (3 : Int32))), .val (.ref a189), .val (.int (0 : Int32)), .val (.ref a196), .val (.ref b203), .val (.int (1 : Int32)), .val (.int (1 : Int32))] [(.int (1 : Int32))])) (fun t kt => XS.iconst X222.here hx rfl (hb hby at_237) kt) ?_
          refine Go.st (S' := T222.setTop (mkF m 242 #[.val (.int p0), .val (.int p1), .val (.int p2), .val (.int p3), .val (.int ((p0 &&& (255 : Int32))).toUInt32.toUInt16.toUInt32.toInt32), .val (.int (((XT.ushr p0 (8 : Int32)) &&& (255 : Int32))).toUInt32.toUInt16.toUInt32.toInt32), .val (.int (p3 &&& (3 : Int32))), .val (.ref a189), .val (.int (0 : Int32)), .val (.ref a196), .val (.ref b203), .val (.int (1 : Int32)), .val (.int (1 : Int32))] [(.int (1 : Int32))])) (fun t kt => XS.goto X222.here hx rfl (pc0 := 238) (pc' := 242) rfl (hb hby at_238) (by decide) (by decide) kt) ?_
          exact retw_b X222 hZ hEL e222 C216 hS hk hx hlk hret (hb hby at_242) (by decide) (by decide) (⟨rfl, N222⟩)
        · refine Go.st (S' := T194.setTop (mkF m 110 #[.val (.int p0), .val (.int p1), .val (.int p2), .val (.int p3), .val (.int ((p0 &&& (255 : Int32))).toUInt32.toUInt16.toUInt32.toInt32), .val (.int (((XT.ushr p0 (8 : Int32)) &&& (255 : Int32))).toUInt32.toUInt16.toUInt32.toInt32), .val (.int (p3 &&& (3 : Int32))), .val (.ref a189), .unset, .unset, .unset, .unset, .unset] [])) (fun t kt => XS.ifNo X194.here hx rfl (hb hby at_107) rfl (XT.i0_eq_f hc107_195) kt) ?_
          refine Go.st (S' := T194.setTop (mkF m 111 #[.val (.int p0), .val (.int p1), .val (.int p2), .val (.int p3), .val (.int ((p0 &&& (255 : Int32))).toUInt32.toUInt16.toUInt32.toInt32), .val (.int (((XT.ushr p0 (8 : Int32)) &&& (255 : Int32))).toUInt32.toUInt16.toUInt32.toInt32), .val (.int (p3 &&& (3 : Int32))), .val (.ref a189), .unset, .unset, .unset, .unset, .unset] [(.int (1 : Int32))])) (fun t kt => XS.iconst X194.here hx rfl (hb hby at_110) kt) ?_
          refine Go.st (S' := T194.setTop (mkF m 115 #[.val (.int p0), .val (.int p1), .val (.int p2), .val (.int p3), .val (.int ((p0 &&& (255 : Int32))).toUInt32.toUInt16.toUInt32.toInt32), .val (.int (((XT.ushr p0 (8 : Int32)) &&& (255 : Int32))).toUInt32.toUInt16.toUInt32.toInt32), .val (.int (p3 &&& (3 : Int32))), .val (.ref a189), .unset, .unset, .unset, .unset, .unset] [(.int (1 : Int32))])) (fun t kt => XS.goto X194.here hx rfl (pc0 := 111) (pc' := 115) rfl (hb hby at_111) (by decide) (by decide) kt) ?_
          refine Go.st (S' := T194.setTop (mkF m 117 #[.val (.int p0), .val (.int p1), .val (.int p2), .val (.int p3), .val (.int ((p0 &&& (255 : Int32))).toUInt32.toUInt16.toUInt32.toInt32), .val (.int (((XT.ushr p0 (8 : Int32)) &&& (255 : Int32))).toUInt32.toUInt16.toUInt32.toInt32), .val (.int (p3 &&& (3 : Int32))), .val (.ref a189), .val (.int (1 : Int32)), .unset, .unset, .unset, .unset] [])) (fun t kt => XS.istore X194.here hx rfl (hb hby at_115) rfl rfl kt) ?_
          obtain ⟨T224, h224, X224, e224, E224, A224, D224, -, st224⟩ := newO X194 hx hZ hown (hw _ (List.mem_of_getElem? (i := 30) rfl)) (hw _ (List.mem_of_getElem? (i := 31) rfl)) (hw _ (List.mem_of_getElem? (i := 32) rfl)) eh194 (g := (mkF m 117 #[.val (.int p0), .val (.int p1), .val (.int p2), .val (.int p3), .val (.int ((p0 &&& (255 : Int32))).toUInt32.toUInt16.toUInt32.toInt32), .val (.int (((XT.ushr p0 (8 : Int32)) &&& (255 : Int32))).toUInt32.toUInt16.toUInt32.toInt32), .val (.int (p3 &&& (3 : Int32))), .val (.ref a189), .val (.int (1 : Int32)), .unset, .unset, .unset, .unset] [])) rfl (hb hby at_117) (by decide) (by decide)
          obtain ⟨a224, g224⟩ : ∃ z, z = T194.heap.size := ⟨_, rfl⟩
          rw [← g224] at A224 D224 st224
          have Z224 : n0 ≤ h224.size := Nat.le_trans Z194 E224.1
          have f225 := (V190.keep K194' (ninS (Ne.symm (Nat.ne_of_lt (by rw [g190]; exact A189.lt))) nin0))
          have S224 : Safe Z own_EL T194.vm T194.heap a224 := Safe.new (Nat.le_of_eq g224.symm)
          have C224 := CHr.trans C194 (CHr.ext E224 C194.1)
          have hk := Nat.le_trans hk E224.1
          have F224_unit : Fld Z h224 a224 "com/example/seatwright/seatwright/engine/Bucket" "unit" "Ljava/lang/String;" .null := D224 (Or.inr (hw _ (List.mem_of_getElem? (i := 38) rfl))) (ty := (.object "java/lang/String")) (by decide)
          have F224_size : Fld Z h224 a224 "com/example/seatwright/seatwright/engine/Bucket" "size" "I" (.int (0 : Int32)) := D224 (Or.inr (hw _ (List.mem_of_getElem? (i := 40) rfl))) (ty := .int) (by decide)
          have F224_inUse : Fld Z h224 a224 "com/example/seatwright/seatwright/engine/Bucket" "inUse" "I" (.int (0 : Int32)) := D224 (Or.inl (hw _ (List.mem_of_getElem? (i := 42) rfl))) (ty := .int) (by decide)
          have F224_above : Fld Z h224 a224 "com/example/seatwright/seatwright/engine/Bucket" "above" "Lcom/example/seatwright/seatwright/engine/Bucket;" .null := D224 (Or.inl (hw _ (List.mem_of_getElem? (i := 71) rfl))) (ty := (.object "com/example/seatwright/seatwright/engine/Bucket")) (by decide)
          refine Go.st (S' := T224.setTop (mkF m 120 #[.val (.int p0), .val (.int p1), .val (.int p2), .val (.int p3), .val (.int ((p0 &&& (255 : Int32))).toUInt32.toUInt16.toUInt32.toInt32), .val (.int (((XT.ushr p0 (8 : Int32)) &&& (255 : Int32))).toUInt32.toUInt16.toUInt32.toInt32), .val (.int (p3 &&& (3 : Int32))), .val (.ref a189), .val (.int (1 : Int32)), .unset, .unset, .unset, .unset] [(.ref a224)])) (fun t kt => st224 t kt) ?_
          refine Go.st (S' := T224.setTop (mkF m 121 #[.val (.int p0), .val (.int p1), .val (.int p2), .val (.int p3), .val (.int ((p0 &&& (255 : Int32))).toUInt32.toUInt16.toUInt32.toInt32), .val (.int (((XT.ushr p0 (8 : Int32)) &&& (255 : Int32))).toUInt32.toUInt16.toUInt32.toInt32), .val (.int (p3 &&& (3 : Int32))), .val (.ref a189), .val (.int (1 : Int32)), .unset, .unset, .unset, .unset] [(.ref a224), (.ref a224)])) (fun t kt => XS.dup X224.here hx rfl (hb hby at_120) rfl rfl kt) ?_
          refine Go.st (S' := T224.setTop (mkF m 123 #[.val (.int p0), .val (.int p1), .val (.int p2), .val (.int p3), .val (.int ((p0 &&& (255 : Int32))).toUInt32.toUInt16.toUInt32.toInt32), .val (.int (((XT.ushr p0 (8 : Int32)) &&& (255 : Int32))).toUInt32.toUInt16.toUInt32.toInt32), .val (.int (p3 &&& (3 : Int32))), .val (.ref a189), .val (.int (1 : Int32)), .unset, .unset, .unset, .unset] [(.ref a189), (.ref a224), (.ref a224)])) (fun t kt => XS.aload X224.here hx rfl (hb hby at_121) rfl rfl kt) ?_
          refine Go.st (S' := T224.setTop (mkF m 124 #[.val (.int p0), .val (.int p1), .val (.int p2), .val (.int p3), .val (.int ((p0 &&& (255 : Int32))).toUInt32.toUInt16.toUInt32.toInt32), .val (.int (((XT.ushr p0 (8 : Int32)) &&& (255 : Int32))).toUInt32.toUInt16.toUInt32.toInt32), .val (.int (p3 &&& (3 : Int32))), .val (.ref a189), .val (.int (1 : Int32)), .unset, .unset, .unset, .unset] [(.int p1), (.ref a189), (.ref a224), (.ref a224)])) (fun t kt => XS.iloadN X224.here hx rfl (hb hby at_123) rfl kt) ?_
          refine Go.st (S' := T224.setTop (mkF m 125 #[.val (.int p0), .val (.int p1), .val (.int p2), .val (.int p3), .val (.int ((p0 &&& (255 : Int32))).toUInt32.toUInt16.toUInt32.toInt32), .val (.int (((XT.ushr p0 (8 : Int32)) &&& (255 : Int32))).toUInt32.toUInt16.toUInt32.toInt32), .val (.int (p3 &&& (3 : Int32))), .val (.ref a189), .val (.int (1 : Int32)), .unset, .unset, .unset, .unset] [(.int p2), (.int p1), (.ref a189), (.ref a224), (.ref a224)])) (fun t kt => XS.iloadN X224.here hx rfl (hb hby at_124) rfl kt) ?_
          refine Go.init X224 hx hZ rfl hown (hw _ (List.mem_of_getElem? (i := 33) rfl)) (hw _ (List.mem_of_getElem? (i := 34) rfl)) (hw _ (List.mem_of_getElem? (i := 35) rfl)) (hw _ (List.mem_of_getElem? (i := 32) rfl)) (by decide) (b := a224) (argsL := [(.ref a189), (.int p1), (.int p2)]) (rest := [(.ref a224)]) (rm2 l Z a0 hw a224 (.ref a189) rfl p1 p2 h224 n0 Z224 A224 (Nat.le_trans Z194 (Nat.le_of_eq g224.symm)) F224_unit F224_size F224_inUse F224_above) e224 rfl (by rw [hml]; rfl) pd__Ljava_lang_String_II_V rfl (hb hby at_125) 1 (Nat.le_refl _) (by decide) (by decide) (by decide) (by decide) ?_
          intro v226 T226 L226 X226 hQ226
          have f227 := (f194_0.ext E224)
          have f228 := (f225.ext E224)
          have f229 := (f194_3.ext E224)
          have f230 := (Safe.ext E224 C194.1 S224)
          obtain ⟨hv226, N226', K226', f226_0, f226_1, f226_2, f226_3, f226_4⟩ := hQ226
          subst hv226
          have N226 := Fr.app N194 N226'
          have Z226 : n0 ≤ T226.heap.size := Nat.le_trans Z224 K226'.1
          have eh226 : T226.heap = T226.heap := rfl
          have C226 := CHr.trans C224 (CHr.keep K226' (allS f230 all0) C224.1)
          have hk := Nat.le_trans hk K226'.1
          show Go pP eE below _ (T226.setTop (mkF m 128 #[.val (.int p0), .val (.int p1), .val (.int p2), .val (.int p3), .val (.int ((p0 &&& (255 : Int32))).toUInt32.toUInt16.toUInt32.toInt32), .val (.int (((XT.ushr p0 (8 : Int32)) &&& (255 : Int32))).toUInt32.toUInt16.toUInt32.toInt32), .val (.int (p3 &&& (3 : Int32))), .val (.ref a189), .val (.int (1 : Int32)), .unset, .unset, .unset, .unset] [(.ref a224)]))
          refine Go.st (S' := T226.setTop (mkF m 130 #[.val (.int p0), .val (.int p1), .val (.int p2), .val (.int p3), .val (.int ((p0 &&& (255 : Int32))).toUInt32.toUInt16.toUInt32.toInt32), .val (.int (((XT.ushr p0 (8 : Int32)) &&& (255 : Int32))).toUInt32.toUInt16.toUInt32.toInt32), .val (.int (p3 &&& (3 : Int32))), .val (.ref a189), .val (.int (1 : Int32)), .val (.ref a224), .unset, .unset, .unset] [])) (fun t kt => XS.astore X226.here hx rfl (hb hby at_128) rfl rfl rfl kt) ?_
          refine Go.st (S' := T226.setTop (mkF m 132 #[.val (.int p0), .val (.int p1), .val (.int p2), .val (.int p3), .val (.int ((p0 &&& (255 : Int32))).toUInt32.toUInt16.toUInt32.toInt32), .val (.int (((XT.ushr p0 (8 : Int32)) &&& (255 : Int32))).toUInt32.toUInt16.toUInt32.toInt32), .val (.int (p3 &&& (3 : Int32))), .val (.ref a189), .val (.int (1 : Int32)), .val (.ref a224), .unset, .unset, .unset] [(.int (1 : Int32))])) (fun t kt => XS.iload X226.here hx rfl (hb hby at_130) rfl kt) ?_
          refine Go.st (S' := T226.setTop (mkF m 135 #[.val (.int p0), .val (.int p1), .val (.int p2), .val (.int p3), .val (.int ((p0 &&& (255 : Int32))).toUInt32.toUInt16.toUInt32.toInt32), .val (.int (((XT.ushr p0 (8 : Int32)) &&& (255 : Int32))).toUInt32.toUInt16.toUInt32.toInt32), .val (.int (p3 &&& (3 : Int32))), .val (.ref a189), .val (.int (1 : Int32)), .val (.ref a224), .unset, .unset, .unset] [])) (fun t kt => XS.ifNo X226.here hx rfl (hb hby at_132) rfl (XT.i0_eq_f (by decide)) kt) ?_
          refine Go.st (S' := T226.setTop (mkF m 137 #[.val (.int p0), .val (.int p1), .val (.int p2), .val (.int p3), .val (.int ((p0 &&& (255 : Int32))).toUInt32.toUInt16.toUInt32.toInt32), .val (.int (((XT.ushr p0 (8 : Int32)) &&& (255 : Int32))).toUInt32.toUInt16.toUInt32.toInt32), .val (.int (p3 &&& (3 : Int32))), .val (.ref a189), .val (.int (1 : Int32)), .val (.ref a224), .unset, .unset, .unset] [(.ref a224)])) (fun t kt => XS.aload X226.here hx rfl (hb hby at_135) rfl rfl kt) ?_
          refine Go.st (S' := T226.setTop (mkF m 139 #[.val (.int p0), .val (.int p1), .val (.int p2), .val (.int p3), .val (.int ((p0 &&& (255 : Int32))).toUInt32.toUInt16.toUInt32.toInt32), .val (.int (((XT.ushr p0 (8 : Int32)) &&& (255 : Int32))).toUInt32.toUInt16.toUInt32.toInt32), .val (.int (p3 &&& (3 : Int32))), .val (.ref a189), .val (.int (1 : Int32)), .val (.ref a224), .unset, .unset, .unset] [(.ref a224), (.ref a224)])) (fun t kt => XS.aload X226.here hx rfl (hb hby at_137) rfl rfl kt) ?_
          refine Go.virt X226 hx hZ hown (hw _ (List.mem_of_getElem? (i := 77) rfl)) (hw _ (List.mem_of_getElem? (i := 78) rfl)) (notFace_of_selects (mvT (args := #[]) hZ (hw _ (List.mem_of_getElem? (i := 80) rfl)))) (hw _ (List.mem_of_getElem? (i := 80) rfl)) (hw _ (List.mem_of_getElem? (i := 79) rfl)) (hw _ (List.mem_of_getElem? (i := 81) rfl)) (hw _ (List.mem_of_getElem? (i := 32) rfl)) (by decide) (b := a224) (argsL := [(.ref a224)]) (rest := []) (rm5 l Z a0 hw a224 (.ref a189) rfl p1 p2 .null rfl a224 T226.heap n0 Z226 f226_0 (Nat.le_trans Z194 (Nat.le_of_eq g224.symm)) f226_1 f226_2 f226_3 f226_4) eh226 f226_0 rfl (by rw [hml]; rfl) pd__Lcom_example_seatwright_seatwright_engine_Bucket__V rfl (hb hby at_139) 0 (Nat.le_refl _) (by decide) (by decide) (by decide) (by decide) ?_
          intro v231 T231 L231 X231 hQ231
          have f232 := (f227.keep K226')
          have f233 := (f228.keep K226' (ninS (Nat.ne_of_lt (by rw [g224]; exact f225.lt)) nin0))
          have f234 := (f229.keep K226' (ninS (Nat.ne_of_lt (by rw [g224]; exact f194_3.lt)) nin0))
          have f235 := (Safe.keep K226' (allS f230 all0) C224.1 f230)
          obtain ⟨hv231, N231', K231', f231_0, f231_1, f231_2, f231_3, f231_4⟩ := hQ231
          subst hv231
          have N231 := Fr.app N226 N231'
          have Z231 : n0 ≤ T231.heap.size := Nat.le_trans Z226 K231'.1
          have eh231 : T231.heap = T231.heap := rfl
          have C231 := CHr.trans C226 (CHr.keep K231' (allS f235 all0) C226.1)
          have hk := Nat.le_trans hk K231'.1
          show Go pP eE below _ (T231.setTop (mkF m 142 #[.val (.int p0), .val (.int p1), .val (.int p2), .val (.int p3), .val (.int ((p0 &&& (255 : Int32))).toUInt32.toUInt16.toUInt32.toInt32), .val (.int (((XT.ushr p0 (8 : Int32)) &&& (255 : Int32))).toUInt32.toUInt16.toUInt32.toInt32), .val (.int (p3 &&& (3 : Int32))), .val (.ref a189), .val (.int (1 : Int32)), .val (.ref a224), .unset, .unset, .unset] []))
          refine Go.st (S' := T231.setTop (mkF m 144 #[.val (.int p0), .val (.int p1), .val (.int p2), .val (.int p3), .val (.int ((p0 &&& (255 : Int32))).toUInt32.toUInt16.toUInt32.toInt32), .val (.int (((XT.ushr p0 (8 : Int32)) &&& (255 : Int32))).toUInt32.toUInt16.toUInt32.toInt32), .val (.int (p3 &&& (3 : Int32))), .val (.ref a189), .val (.int (1 : Int32)), .val (.ref a224), .unset, .unset, .unset] [(.ref a224)])) (fun t kt => XS.aload X231.here hx rfl (hb hby at_142) rfl rfl kt) ?_
          refine Go.virt X231 hx hZ hown (hw _ (List.mem_of_getElem? (i := 43) rfl)) (hw _ (List.mem_of_getElem? (i := 44) rfl)) (notFace_of_selects (mvT (args := #[]) hZ (hw _ (List.mem_of_getElem? (i := 46) rfl)))) (hw _ (List.mem_of_getElem? (i := 46) rfl)) (hw _ (List.mem_of_getElem? (i := 45) rfl)) (hw _ (List.mem_of_getElem? (i := 47) rfl)) (hw _ (List.mem_of_getElem? (i := 32) rfl)) (by decide) (b := a224) (argsL := []) (rest := []) (rm3 l Z a0 hw a224 (.ref a189) rfl p1 p2 (.ref a224) rfl T231.heap n0 Z231 f231_0 (Nat.le_trans Z194 (Nat.le_of_eq g224.symm)) f231_1 f231_2 f231_3 f231_4) eh231 f231_0 rfl (by rw [hml]; rfl) pd___Lcom_example_seatwright_seatwright_engine_Bucket_ rfl (hb hby at_144) 0 (Nat.le_refl _) (by decide) (by decide) (by decide) (by decide) ?_
          intro v236 T236 L236 X236 hQ236
          have f237 := (f232.keep K231')
          have f238 := (f233.keep K231' (ninS (Nat.ne_of_lt (by rw [g224]; exact f225.lt)) nin0))
          have f239 := (f234.keep K231' (ninS (Nat.ne_of_lt (by rw [g224]; exact f194_3.lt)) nin0))
          obtain ⟨b236, hv236, N236', K236', y236_0, u236_0, f236_0, f236_1, f236_2, f236_3, f236_4⟩ := hQ236
          subst hv236
          have N236 := Fr.app N231 N236'
          have Z236 : n0 ≤ T236.heap.size := Nat.le_trans Z231 K236'.1
          have eh236 : T236.heap = T236.heap := rfl
          have C236 := CHr.trans C231 (CHr.keep K236' all0 C231.1)
          have hk := Nat.le_trans hk K236'.1
          show Go pP eE below _ (T236.setTop (mkF m 147 #[.val (.int p0), .val (.int p1), .val (.int p2), .val (.int p3), .val (.int ((p0 &&& (255 : Int32))).toUInt32.toUInt16.toUInt32.toInt32), .val (.int (((XT.ushr p0 (8 : Int32)) &&& (255 : Int32))).toUInt32.toUInt16.toUInt32.toInt32), .val (.int (p3 &&& (3 : Int32))), .val (.ref a189), .val (.int (1 : Int32)), .val (.ref a224), .unset, .unset, .unset] [(.ref b236)]))
          refine Go.st (S' := T236.setTop (mkF m 149 #[.val (.int p0), .val (.int p1), .val (.int p2), .val (.int p3), .val (.int ((p0 &&& (255 : Int32))).toUInt32.toUInt16.toUInt32.toInt32), .val (.int (((XT.ushr p0 (8 : Int32)) &&& (255 : Int32))).toUInt32.toUInt16.toUInt32.toInt32), .val (.int (p3 &&& (3 : Int32))), .val (.ref a189), .val (.int (1 : Int32)), .val (.ref a224), .val (.ref b236), .unset, .unset] [])) (fun t kt => XS.astore X236.here hx rfl (hb hby at_147) rfl rfl rfl kt) ?_
          refine Go.st (S' := T236.setTop (mkF m 151 #[.val (.int p0), .val (.int p1), .val (.int p2), .val (.int p3), .val (.int ((p0 &&& (255 : Int32))).toUInt32.toUInt16.toUInt32.toInt32), .val (.int (((XT.ushr p0 (8 : Int32)) &&& (255 : Int32))).toUInt32.toUInt16.toUInt32.toInt32), .val (.int (p3 &&& (3 : Int32))), .val (.ref a189), .val (.int (1 : Int32)), .val (.ref a224), .val (.ref b236), .unset, .unset] [(.ref b236)])) (fun t kt => XS.aload X236.here hx rfl (hb hby at_149) rfl rfl kt) ?_
          refine Go.st (S' := T236.setTop (mkF m 154 #[.val (.int p0), .val (.int p1), .val (.int p2), .val (.int p3), .val (.int ((p0 &&& (255 : Int32))).toUInt32.toUInt16.toUInt32.toInt32), .val (.int (((XT.ushr p0 (8 : Int32)) &&& (255 : Int32))).toUInt32.toUInt16.toUInt32.toInt32), .val (.int (p3 &&& (3 : Int32))), .val (.ref a189), .val (.int (1 : Int32)), .val (.ref a224), .val (.ref b236), .unset, .unset] [])) (fun t kt => XS.ifnullNo X236.here hx rfl (hb hby at_151) rfl kt) ?_
          refine Go.st (S' := T236.setTop (mkF m 156 #[.val (.int p0), .val (.int p1), .val (.int p2), .val (.int p3), .val (.int ((p0 &&& (255 : Int32))).toUInt32.toUInt16.toUInt32.toInt32), .val (.int (((XT.ushr p0 (8 : Int32)) &&& (255 : Int32))).toUInt32.toUInt16.toUInt32.toInt32), .val (.int (p3 &&& (3 : Int32))), .val (.ref a189), .val (.int (1 : Int32)), .val (.ref a224), .val (.ref b236), .unset, .unset] [(.ref b236)])) (fun t kt => XS.aload X236.here hx rfl (hb hby at_154) rfl rfl kt) ?_
          refine Go.st (S' := T236.setTop (mkF m 158 #[.val (.int p0), .val (.int p1), .val (.int p2), .val (.int p3), .val (.int ((p0 &&& (255 : Int32))).toUInt32.toUInt16.toUInt32.toInt32), .val (.int (((XT.ushr p0 (8 : Int32)) &&& (255 : Int32))).toUInt32.toUInt16.toUInt32.toInt32), .val (.int (p3 &&& (3 : Int32))), .val (.ref a189), .val (.int (1 : Int32)), .val (.ref a224), .val (.ref b236), .unset, .unset] [(.ref a224), (.ref b236)])) (fun t kt => XS.aload X236.here hx rfl (hb hby at_156) rfl rfl kt) ?_
          refine Go.st (S' := T236.setTop (mkF m 163 #[.val (.int p0), .val (.int p1), .val (.int p2), .val (.int p3), .val (.int ((p0 &&& (255 : Int32))).toUInt32.toUInt16.toUInt32.toInt32), .val (.int (((XT.ushr p0 (8 : Int32)) &&& (255 : Int32))).toUInt32.toUInt16.toUInt32.toInt32), .val (.int (p3 &&& (3 : Int32))), .val (.ref a189), .val (.int (1 : Int32)), .val (.ref a224), .val (.ref b236), .unset, .unset] [])) (fun t kt => XT.acmpYes X236.here hx rfl (pc0 := 158) (pc' := 163) rfl (hb hby at_158) rfl rfl rfl (XT.aa_ne_t (fun q => (Ne.symm (Nat.ne_of_lt (Nat.lt_of_lt_of_le f231_0.lt y236_0))) (Value.ref.inj q))) (by decide) (by decide) kt) ?_
          refine Go.st (S' := T236.setTop (mkF m 165 #[.val (.int p0), .val (.int p1), .val (.int p2), .val (.int p3), .val (.int ((p0 &&& (255 : Int32))).toUInt32.toUInt16.toUInt32.toInt32), .val (.int (((XT.ushr p0 (8 : Int32)) &&& (255 : Int32))).toUInt32.toUInt16.toUInt32.toInt32), .val (.int (p3 &&& (3 : Int32))), .val (.ref a189), .val (.int (1 : Int32)), .val (.ref a224), .val (.ref b236), .unset, .unset] [(.ref b236)])) (fun t kt => XS.aload X236.here hx rfl (hb hby at_163) rfl rfl kt) ?_
          refine Go.virt X236 hx hZ hown (hw _ (List.mem_of_getElem? (i := 50) rfl)) (hw _ (List.mem_of_getElem? (i := 51) rfl)) (notFace_of_selects (mvT (args := #[]) hZ (hw _ (List.mem_of_getElem? (i := 53) rfl)))) (hw _ (List.mem_of_getElem? (i := 53) rfl)) (hw _ (List.mem_of_getElem? (i := 52) rfl)) (hw _ (List.mem_of_getElem? (i := 54) rfl)) (hw _ (List.mem_of_getElem? (i := 32) rfl)) (by decide) (b := b236) (argsL := []) (rest := []) (rm6 l Z a0 hw b236 (.ref a189) rfl T236.heap n0 Z236 f236_1) eh236 f236_0 rfl (by rw [hml]; rfl) pd___Ljava_lang_String_ rfl (hb hby at_165) 0 (Nat.le_refl _) (by decide) (by decide) (by decide) (by decide) ?_
          intro v240 T240 L240 X240 hQ240
          obtain ⟨hv240, N240', e240⟩ := hQ240
          subst hv240
          have N240 := Fr.app N236 N240'
          show Go pP eE below _ (T240.setTop (mkF m 168 #[.val (.int p0), .val (.int p1), .val (.int p2), .val (.int p3), .val (.int ((p0 &&& (255 : Int32))).toUInt32.toUInt16.toUInt32.toInt32), .val (.int (((XT.ushr p0 (8 : Int32)) &&& (255 : Int32))).toUInt32.toUInt16.toUInt32.toInt32), .val (.int (p3 &&& (3 : Int32))), .val (.ref a189), .val (.int (1 : Int32)), .val (.ref a224), .val (.ref b236), .unset, .unset] [(.ref a189)]))
          refine Go.st (S' := T240.setTop (mkF m 170 #[.val (.int p0), .val (.int p1), .val (.int p2), .val (.int p3), .val (.int ((p0 &&& (255 : Int32))).toUInt32.toUInt16.toUInt32.toInt32), .val (.int (((XT.ushr p0 (8 : Int32)) &&& (255 : Int32))).toUInt32.toUInt16.toUInt32.toInt32), .val (.int (p3 &&& (3 : Int32))), .val (.ref a189), .val (.int (1 : Int32)), .val (.ref a224), .val (.ref b236), .unset, .unset] [(.ref a189), (.ref a189)])) (fun t kt => XS.aload X240.here hx rfl (hb hby at_168) rfl rfl kt) ?_
          refine Go.st (S' := T240.setTop (mkF m 173 #[.val (.int p0), .val (.int p1), .val (.int p2), .val (.int p3), .val (.int ((p0 &&& (255 : Int32))).toUInt32.toUInt16.toUInt32.toInt32), .val (.int (((XT.ushr p0 (8 : Int32)) &&& (255 : Int32))).toUInt32.toUInt16.toUInt32.toInt32), .val (.int (p3 &&& (3 : Int32))), .val (.ref a189), .val (.int (1 : Int32)), .val (.ref a224), .val (.ref b236), .unset, .unset] [])) (fun t kt => XT.acmpNo X240.here hx rfl (hb hby at_170) rfl rfl rfl (XT.aa_ne_f rfl) kt) ?_
          refine Go.st (S' := T240.setTop (mkF m 175 #[.val (.int p0), .val (.int p1), .val (.int p2), .val (.int p3), .val (.int ((p0 &&& (255 : Int32))).toUInt32.toUInt16.toUInt32.toInt32), .val (.int (((XT.ushr p0 (8 : Int32)) &&& (255 : Int32))).toUInt32.toUInt16.toUInt32.toInt32), .val (.int (p3 &&& (3 : Int32))), .val (.ref a189), .val (.int (1 : Int32)), .val (.ref a224), .val (.ref b236), .unset, .unset] [(.ref b236)])) (fun t kt => XS.aload X240.here hx rfl (hb hby at_173) rfl rfl kt) ?_
          refine Go.virt X240 hx hZ hown (hw _ (List.mem_of_getElem? (i := 55) rfl)) (hw _ (List.mem_of_getElem? (i := 56) rfl)) (notFace_of_selects (mvT (args := #[]) hZ (hw _ (List.mem_of_getElem? (i := 58) rfl)))) (hw _ (List.mem_of_getElem? (i := 58) rfl)) (hw _ (List.mem_of_getElem? (i := 57) rfl)) (hw _ (List.mem_of_getElem? (i := 59) rfl)) (hw _ (List.mem_of_getElem? (i := 32) rfl)) (by decide) (b := b236) (argsL := []) (rest := []) (rm7 l Z a0 hw b236 p1 T236.heap n0 Z236 f236_2) e240 f236_0 rfl (by rw [hml]; rfl) pd___I rfl (hb hby at_175) 0 (Nat.le_refl _) (by decide) (by decide) (by decide) (by decide) ?_
          intro v241 T241 L241 X241 hQ241
          obtain ⟨hv241, N241', e241⟩ := hQ241
          subst hv241
          have N241 := Fr.app N240 N241'
          show Go pP eE below _ (T241.setTop (mkF m 178 #[.val (.int p0), .val (.int p1), .val (.int p2), .val (.int p3), .val (.int ((p0 &&& (255 : Int32))).toUInt32.toUInt16.toUInt32.toInt32), .val (.int (((XT.ushr p0 (8 : Int32)) &&& (255 : Int32))).toUInt32.toUInt16.toUInt32.toInt32), .val (.int (p3 &&& (3 : Int32))), .val (.ref a189), .val (.int (1 : Int32)), .val (.ref a224), .val (.ref b236), .unset, .unset] [(.int p1)]))
          refine Go.st (S' := T241.setTop (mkF m 179 #[.val (.int p0), .val (.int p1), .val (.int p2), .val (.int p3), .val (.int ((p0 &&& (255 : Int32))).toUInt32.toUInt16.toUInt32.toInt32), .val (.int (((XT.ushr p0 (8 : Int32)) &&& (255 : Int32))).toUInt32.toUInt16.toUInt32.toInt32), .val (.int (p3 &&& (3 : Int32))), .val (.ref a189), .val (.int (1 : Int32)), .val (.ref a224), .val (.ref b236), .unset, .unset] [(.int p1), (.int p1)])) (fun t kt => XS.iloadN X241.here hx rfl (hb hby at_178) rfl kt) ?_
          refine Go.st (S' := T241.setTop (mkF m 182 #[.val (.int p0), .val (.int p1), .val (.int p2), .val (.int p3), .val (.int ((p0 &&& (255 : Int32))).toUInt32.toUInt16.toUInt32.toInt32), .val (.int (((XT.ushr p0 (8 : Int32)) &&& (255 : Int32))).toUInt32.toUInt16.toUInt32.toInt32), .val (.int (p3 &&& (3 : Int32))), .val (.ref a189), .val (.int (1 : Int32)), .val (.ref a224), .val (.ref b236), .unset, .unset] [])) (fun t kt => XS.icmpNo X241.here hx rfl (hb hby at_179) rfl (XT.ii_ne_f rfl) kt) ?_
          refine Go.st (S' := T241.setTop (mkF m 184 #[.val (.int p0), .val (.int p1), .val (.int p2), .val (.int p3), .val (.int ((p0 &&& (255 : Int32))).toUInt32.toUInt16.toUInt32.toInt32), .val (.int (((XT.ushr p0 (8 : Int32)) &&& (255 : Int32))).toUInt32.toUInt16.toUInt32.toInt32), .val (.int (p3 &&& (3 : Int32))), .val (.ref a189), .val (.int (1 : Int32)), .val (.ref a224), .val (.ref b236), .unset, .unset] [(.ref b236)])) (fun t kt => XS.aload X241.here hx rfl (hb hby at_182) rfl rfl kt) ?_
          refine Go.virt X241 hx hZ hown (hw _ (List.mem_of_getElem? (i := 60) rfl)) (hw _ (List.mem_of_getElem? (i := 61) rfl)) (notFace_of_selects (mvT (args := #[]) hZ (hw _ (List.mem_of_getElem? (i := 63) rfl)))) (hw _ (List.mem_of_getElem? (i := 63) rfl)) (hw _ (List.mem_of_getElem? (i := 62) rfl)) (hw _ (List.mem_of_getElem? (i := 64) rfl)) (hw _ (List.mem_of_getElem? (i := 32) rfl)) (by decide) (b := b236) (argsL := []) (rest := []) (rm8 l Z a0 hw b236 p2 T236.heap n0 Z236 f236_3) e241 f236_0 rfl (by rw [hml]; rfl) pd___I rfl (hb hby at_184) 0 (Nat.le_refl _) (by decide) (by decide) (by decide) (by decide) ?_
          intro v242 T242 L242 X242 hQ242
          obtain ⟨hv242, N242', e242⟩ := hQ242
          subst hv242
          have N242 := Fr.app N241 N242'
          show Go pP eE below _ (T242.setTop (mkF m 187 #[.val (.int p0), .val (.int p1), .val (.int p2), .val (.int p3), .val (.int ((p0 &&& (255 : Int32))).toUInt32.toUInt16.toUInt32.toInt32), .val (.int (((XT.ushr p0 (8 : Int32)) &&& (255 : Int32))).toUInt32.toUInt16.toUInt32.toInt32), .val (.int (p3 &&& (3 : Int32))), .val (.ref a189), .val (.int (1 : Int32)), .val (.ref a224), .val (.ref b236), .unset, .unset] [(.int p2)]))
          refine Go.st (S' := T242.setTop (mkF m 188 #[.val (.int p0), .val (.int p1), .val (.int p2), .val (.int p3), .val (.int ((p0 &&& (255 : Int32))).toUInt32.toUInt16.toUInt32.toInt32), .val (.int (((XT.ushr p0 (8 : Int32)) &&& (255 : Int32))).toUInt32.toUInt16.toUInt32.toInt32), .val (.int (p3 &&& (3 : Int32))), .val (.ref a189), .val (.int (1 : Int32)), .val (.ref a224), .val (.ref b236), .unset, .unset] [(.int p2), (.int p2)])) (fun t kt => XS.iloadN X242.here hx rfl (hb hby at_187) rfl kt) ?_
          refine Go.st (S' := T242.setTop (mkF m 191 #[.val (.int p0), .val (.int p1), .val (.int p2), .val (.int p3), .val (.int ((p0 &&& (255 : Int32))).toUInt32.toUInt16.toUInt32.toInt32), .val (.int (((XT.ushr p0 (8 : Int32)) &&& (255 : Int32))).toUInt32.toUInt16.toUInt32.toInt32), .val (.int (p3 &&& (3 : Int32))), .val (.ref a189), .val (.int (1 : Int32)), .val (.ref a224), .val (.ref b236), .unset, .unset] [])) (fun t kt => XS.icmpNo X242.here hx rfl (hb hby at_188) rfl (XT.ii_ne_f rfl) kt) ?_
          refine Go.st (S' := T242.setTop (mkF m 193 #[.val (.int p0), .val (.int p1), .val (.int p2), .val (.int p3), .val (.int ((p0 &&& (255 : Int32))).toUInt32.toUInt16.toUInt32.toInt32), .val (.int (((XT.ushr p0 (8 : Int32)) &&& (255 : Int32))).toUInt32.toUInt16.toUInt32.toInt32), .val (.int (p3 &&& (3 : Int32))), .val (.ref a189), .val (.int (1 : Int32)), .val (.ref a224), .val (.ref b236), .unset, .unset] [(.ref b236)])) (fun t kt => XS.aload X242.here hx rfl (hb hby at_191) rfl rfl kt) ?_
          refine Go.virt X242 hx hZ hown (hw _ (List.mem_of_getElem? (i := 65) rfl)) (hw _ (List.mem_of_getElem? (i := 66) rfl)) (notFace_of_selects (mvT (args := #[]) hZ (hw _ (List.mem_of_getElem? (i := 68) rfl)))) (hw _ (List.mem_of_getElem? (i := 68) rfl)) (hw _ (List.mem_of_getElem? (i := 67) rfl)) (hw _ (List.mem_of_getElem? (i := 69) rfl)) (hw _ (List.mem_of_getElem? (i := 32) rfl)) (by decide) (b := b236) (argsL := []) (rest := []) (rm9 l Z a0 hw b236 .null rfl T236.heap n0 Z236 f236_4) e242 f236_0 rfl (by rw [hml]; rfl) pd___Lcom_example_seatwright_seatwright_engine_Bucket_ rfl (hb hby at_193) 0 (Nat.le_refl _) (by decide) (by decide) (by decide) (by decide) ?_
          intro v243 T243 L243 X243 hQ243
          obtain ⟨hv243, N243', e243⟩ := hQ243
          subst hv243
          have N243 := Fr.app N242 N243'
          show Go pP eE below _ (T243.setTop (mkF m 196 #[.val (.int p0), .val (.int p1), .val (.int p2), .val (.int p3), .val (.int ((p0 &&& (255 : Int32))).toUInt32.toUInt16.toUInt32.toInt32), .val (.int (((XT.ushr p0 (8 : Int32)) &&& (255 : Int32))).toUInt32.toUInt16.toUInt32.toInt32), .val (.int (p3 &&& (3 : Int32))), .val (.ref a189), .val (.int (1 : Int32)), .val (.ref a224), .val (.ref b236), .unset, .unset] [.null]))
          refine Go.st (S' := T243.setTop (mkF m 199 #[.val (.int p0), .val (.int p1), .val (.int p2), .val (.int p3), .val (.int ((p0 &&& (255 : Int32))).toUInt32.toUInt16.toUInt32.toInt32), .val (.int (((XT.ushr p0 (8 : Int32)) &&& (255 : Int32))).toUInt32.toUInt16.toUInt32.toInt32), .val (.int (p3 &&& (3 : Int32))), .val (.ref a189), .val (.int (1 : Int32)), .val (.ref a224), .val (.ref b236), .unset, .unset] [])) (fun t kt => XT.ifnonnullNo X243.here hx rfl (hb hby at_196) rfl kt) ?_
          refine Go.st (S' := T243.setTop (mkF m 200 #[.val (.int p0), .val (.int p1), .val (.int p2), .val (.int p3), .val (.int ((p0 &&& (255 : Int32))).toUInt32.toUInt16.toUInt32.toInt32), .val (.int (((XT.ushr p0 (8 : Int32)) &&& (255 : Int32))).toUInt32.toUInt16.toUInt32.toInt32), .val (.int (p3 &&& (3 : Int32))), .val (.ref a189), .val (.int (1 : Int32)), .val (.ref a224), .val (.ref b236), .unset, .unset] [(.int (1 : Int32))])) (fun t kt => XS.iconst X243.here hx rfl (hb hby at_199) kt) ?_
          refine Go.st (S' := T243.setTop (mkF m 204 #[.val (.int p0), .val (.int p1), .val (.int p2), .val (.int p3), .val (.int ((p0 &&& (255 : Int32))).toUInt32.toUInt16.toUInt32.toInt32), .val (.int (((XT.ushr p0 (8 : Int32)) &&& (255 : Int32))).toUInt32.toUInt16.toUInt32.toInt32), .val (.int (p3 &&& (3 : Int32))), .val (.ref a189), .val (.int (1 : Int32)), .val (.ref a224), .val (.ref b236), .unset, .unset] [(.int (1 : Int32))])) (fun t kt => XS.goto X243.here hx rfl (pc0 := 200) (pc' := 204) rfl (hb hby at_200) (by decide) (by decide) kt) ?_
          refine Go.st (S' := T243.setTop (mkF m 206 #[.val (.int p0), .val (.int p1), .val (.int p2), .val (.int p3), .val (.int ((p0 &&& (255 : Int32))).toUInt32.toUInt16.toUInt32.toInt32), .val (.int (((XT.ushr p0 (8 : Int32)) &&& (255 : Int32))).toUInt32.toUInt16.toUInt32.toInt32), .val (.int (p3 &&& (3 : Int32))), .val (.ref a189), .val (.int (1 : Int32)), .val (.ref a224), .val (.ref b236), .val (.int (1 : Int32)), .unset] [])) (fun t kt => XS.istore X243.here hx rfl (hb hby at_204) rfl rfl kt) ?_
          refine Go.st (S' := T243.setTop (mkF m 208 #[.val (.int p0), .val (.int p1), .val (.int p2), .val (.int p3), .val (.int ((p0 &&& (255 : Int32))).toUInt32.toUInt16.toUInt32.toInt32), .val (.int (((XT.ushr p0 (8 : Int32)) &&& (255 : Int32))).toUInt32.toUInt16.toUInt32.toInt32), .val (.int (p3 &&& (3 : Int32))), .val (.ref a189), .val (.int (1 : Int32)), .val (.ref a224), .val (.ref b236), .val (.int (1 : Int32)), .unset] [(.ref a224)])) (fun t kt => XS.aload X243.here hx rfl (hb hby at_206) rfl rfl kt) ?_
          have f244 := (f231_0.keep K236')
          have f245 := (f231_1.keep K236' nin0)
          have f246 := (f231_2.keep K236' nin0)
          have f247 := (f231_3.keep K236' nin0)
          have f248 := (f231_4.keep K236' nin0)
          refine Go.virt X243 hx hZ hown (hw _ (List.mem_of_getElem? (i := 72) rfl)) (hw _ (List.mem_of_getElem? (i := 73) rfl)) (notFace_of_selects (mvT (args := #[]) hZ (hw _ (List.mem_of_getElem? (i := 75) rfl)))) (hw _ (List.mem_of_getElem? (i := 75) rfl)) (hw _ (List.mem_of_getElem? (i := 74) rfl)) (hw _ (List.mem_of_getElem? (i := 76) rfl)) (hw _ (List.mem_of_getElem? (i := 32) rfl)) (by decide) (b := a224) (argsL := []) (rest := []) (rm4 l Z a0 hw a224 (.ref a189) rfl p1 p2 (.ref a224) rfl T236.heap n0 Z236 f244 (Nat.le_trans Z194 (Nat.le_of_eq g224.symm)) f245 f246 f247 f248) e243 f244 rfl (by rw [hml]; rfl) pd___V rfl (hb hby at_208) 0 (Nat.le_refl _) (by decide) (by decide) (by decide) (by decide) ?_
          intro v249 T249 L249 X249 hQ249
          have f250 := (f237.keep K236')
          have f251 := (f238.keep K236' nin0)
          have f252 := (f239.keep K236' nin0)
          have f253 := (Safe.keep K236' all0 C231.1 (Safe.keep K231' (allS f235 all0) C226.1 f235))
          obtain ⟨hv249, N249', K249', f249_0, f249_1, f249_2, f249_3, f249_4⟩ := hQ249
          subst hv249
          have N249 := Fr.app N243 N249'
          have Z249 : n0 ≤ T249.heap.size := Nat.le_trans Z236 K249'.1
          have eh249 : T249.heap = T249.heap := rfl
          have C249 := CHr.trans C236 (CHr.keep K249' (allS f253 all0) C236.1)
          have hk := Nat.le_trans hk K249'.1
          show Go pP eE below _ (T249.setTop (mkF m 211 #[.val (.int p0), .val (.int p1), .val (.int p2), .val (.int p3), .val (.int ((p0 &&& (255 : Int32))).toUInt32.toUInt16.toUInt32.toInt32), .val (.int (((XT.ushr p0 (8 : Int32)) &&& (255 : Int32))).toUInt32.toUInt16.toUInt32.toInt32), .val (.int (p3 &&& (3 : Int32))), .val (.ref a189), .val (.int (1 : Int32)), .val (.ref a224), .val (.ref b236), .val (.int (1 : Int32)), .unset] []))
          refine Go.st (S' := T249.setTop (mkF m 213 #[.val (.int p0), .val (.int p1), .val (.int p2), .val (.int p3), .val (.int ((p0 &&& (255 : Int32))).toUInt32.toUInt16.toUInt32.toInt32), .val (.int (((XT.ushr p0 (8 : Int32)) &&& (255 : Int32))).toUInt32.toUInt16.toUInt32.toInt32), .val (.int (p3 &&& (3 : Int32))), .val (.ref a189), .val (.int (1 : Int32)), .val (.ref a224), .val (.ref b236), .val (.int (1 : Int32)), .unset] [(.ref b236)])) (fun t kt => XS.aload X249.here hx rfl (hb hby at_211) rfl rfl kt) ?_
          have f254 := (f236_3.keep K249' (ninS (Ne.symm (Nat.ne_of_lt (Nat.lt_of_lt_of_le f231_0.lt y236_0))) nin0))
          have f256 := (f236_0.keep K249')
          refine Go.virt X249 hx hZ hown (hw _ (List.mem_of_getElem? (i := 60) rfl)) (hw _ (List.mem_of_getElem? (i := 61) rfl)) (notFace_of_selects (mvT (args := #[]) hZ (hw _ (List.mem_of_getElem? (i := 63) rfl)))) (hw _ (List.mem_of_getElem? (i := 63) rfl)) (hw _ (List.mem_of_getElem? (i := 62) rfl)) (hw _ (List.mem_of_getElem? (i := 64) rfl)) (hw _ (List.mem_of_getElem? (i := 32) rfl)) (by decide) (b := b236) (argsL := []) (rest := []) (rm8 l Z a0 hw b236 p2 T249.heap n0 Z249 f254) eh249 f256 rfl (by rw [hml]; rfl) pd___I rfl (hb hby at_213) 0 (Nat.le_refl _) (by decide) (by decide) (by decide) (by decide) ?_
          intro v255 T255 L255 X255 hQ255
          obtain ⟨hv255, N255', e255⟩ := hQ255
          subst hv255
          have N255 := Fr.app N249 N255'
          show Go pP eE below _ (T255.setTop (mkF m 216 #[.val (.int p0), .val (.int p1), .val (.int p2), .val (.int p3), .val (.int ((p0 &&& (255 : Int32))).toUInt32.toUInt16.toUInt32.toInt32), .val (.int (((XT.ushr p0 (8 : Int32)) &&& (255 : Int32))).toUInt32.toUInt16.toUInt32.toInt32), .val (.int (p3 &&& (3 : Int32))), .val (.ref a189), .val (.int (1 : Int32)), .val (.ref a224), .val (.ref b236), .val (.int (1 : Int32)), .unset] [(.int p2)]))
          refine Go.st (S' := T255.setTop (mkF m 217 #[.val (.int p0), .val (.int p1), .val (.int p2), .val (.int p3), .val (.int ((p0 &&& (255 : Int32))).toUInt32.toUInt16.toUInt32.toInt32), .val (.int (((XT.ushr p0 (8 : Int32)) &&& (255 : Int32))).toUInt32.toUInt16.toUInt32.toInt32), .val (.int (p3 &&& (3 : Int32))), .val (.ref a189), .val (.int (1 : Int32)), .val (.ref a224), .val (.ref b236), .val (.int (1 : Int32)), .unset] [(.int p2), (.int p2)])) (fun t kt => XS.iloadN X255.here hx rfl (hb hby at_216) rfl kt) ?_
          refine Go.st (S' := T255.setTop (mkF m 220 #[.val (.int p0), .val (.int p1), .val (.int p2), .val (.int p3), .val (.int ((p0 &&& (255 : Int32))).toUInt32.toUInt16.toUInt32.toInt32), .val (.int (((XT.ushr p0 (8 : Int32)) &&& (255 : Int32))).toUInt32.toUInt16.toUInt32.toInt32), .val (.int (p3 &&& (3 : Int32))), .val (.ref a189), .val (.int (1 : Int32)), .val (.ref a224), .val (.ref b236), .val (.int (1 : Int32)), .unset] [])) (fun t kt => XS.icmpNo X255.here hx rfl (hb hby at_217) rfl (XT.ii_ne_f rfl) kt) ?_
          refine Go.st (S' := T255.setTop (mkF m 221 #[.val (.int p0), .val (.int p1), .val (.int p2), .val (.int p3), .val (.int ((p0 &&& (255 : Int32))).toUInt32.toUInt16.toUInt32.toInt32), .val (.int (((XT.ushr p0 (8 : Int32)) &&& (255 : Int32))).toUInt32.toUInt16.toUInt32.toInt32), .val (.int (p3 &&& (3 : Int32))), .val (.ref a189), .val (.int (1 : Int32)), .val (.ref a224), .val (.ref b236), .val (.int (1 : Int32)), .unset] [(.int (1 : Int32))])) (fun t kt => XS.iconst X255.here hx rfl (hb hby at_220) kt) ?_
          refine Go.st (S' := T255.setTop (mkF m 225 #[.val (.int p0), .val (.int p1), .val (.int p2), .val (.int p3), .val (.int ((p0 &&& (255 : Int32))).toUInt32.toUInt16.toUInt32.toInt32), .val (.int (((XT.ushr p0 (8 : Int32)) &&& (255 : Int32))).toUInt32.toUInt16.toUInt32.toInt32), .val (.int (p3 &&& (3 : Int32))), .val (.ref a189), .val (.int (1 : Int32)), .val (.ref a224), .val (.ref b236), .val (.int (1 : Int32)), .unset] [(.int (1 : Int32))])) (fun t kt => XS.goto X255.here hx rfl (pc0 := 221) (pc' := 225) rfl (hb hby at_221) (by decide) (by decide) kt) ?_
          refine Go.st (S' := T255.setTop (mkF m 227 #[.val (.int p0), .val (.int p1), .val (.int p2), .val (.int p3), .val (.int ((p0 &&& (255 : Int32))).toUInt32.toUInt16.toUInt32.toInt32), .val (.int (((XT.ushr p0 (8 : Int32)) &&& (255 : Int32))).toUInt32.toUInt16.toUInt32.toInt32), .val (.int (p3 &&& (3 : Int32))), .val (.ref a189), .val (.int (1 : Int32)), .val (.ref a224), .val (.ref b236), .val (.int (1 : Int32)), .val (.int (1 : Int32))] [])) (fun t kt => XS.istore X255.here hx rfl (hb hby at_225) rfl rfl kt) ?_
          refine Go.st (S' := T255.setTop (mkF m 229 #[.val (.int p0), .val (.int p1), .val (.int p2), .val (.int p3), .val (.int ((p0 &&& (255 : Int32))).toUInt32.toUInt16.toUInt32.toInt32), .val (.int (((XT.ushr p0 (8 : Int32)) &&& (255 : Int32))).toUInt32.toUInt16.toUInt32.toInt32), .val (.int (p3 &&& (3 : Int32))), .val (.ref a189), .val (.int (1 : Int32)), .val (.ref a224), .val (.ref b236), .val (.int (1 : Int32)), .val (.int (1 : Int32))] [(.int (1 : Int32))])) (fun t kt => XS.iload X255.here hx rfl (hb hby at_227) rfl kt) ?_
          refine Go.st (S' := T255.setTop (mkF m 232 #[.val (.int p0), .val (.int p1), .val (.int p2), .val (.int p3), .val (.int ((p0 &&& (255 : Int32))).toUInt32.toUInt16.toUInt32.toInt32), .val (.int (((XT.ushr p0 (8 : Int32)) &&& (255 : Int32))).toUInt32.toUInt16.toUInt32.toInt32), .val (.int (p3 &&& (3 : Int32))), .val (.ref a189), .val (.int (1 : Int32)), .val (.ref a224), .val (.ref b236), .val (.int (1 : Int32)), .val (.int (1 : Int32))] [])) (fun t kt => XS.ifNo X255.here hx rfl (hb hby at_229) rfl (XT.i0_eq_f (by decide)) kt) ?_
          refine Go.st (S' := T255.setTop (mkF m 234 #[.val (.int p0), .val (.int p1), .val (.int p2), .val (.int p3), .val (.int ((p0 &&& (255 : Int32))).toUInt32.toUInt16.toUInt32.toInt32), .val (.int (((XT.ushr p0 (8 : Int32)) &&& (255 : Int32))).toUInt32.toUInt16.toUInt32.toInt32), .val (.int (p3 &&& (3 : Int32))), .val (.ref a189), .val (.int (1 : Int32)), .val (.ref a224), .val (.ref b236), .val (.int (1 : Int32)), .val (.int (1 : Int32))] [(.int (1 : Int32))])) (fun t kt => XS.iload X255.here hx rfl (hb hby at_232) rfl kt) ?_
          refine Go.st (S' := T255.setTop (mkF m 237 #[.val (.int p0), .val (.int p1), .val (.int p2), .val (.int p3), .val (.int ((p0 &&& (255 : Int32))).toUInt32.toUInt16.toUInt32.toInt32), .val (.int (((XT.ushr p0 (8 : Int32)) &&& (255 : Int32))).toUInt32.toUInt16.toUInt32.toInt32), .val (.int (p3 &&& (3 : Int32))), .val (.ref a189), .val (.int (1 : Int32)), .val (.ref a224), .val (.ref b236), .val (.int (1 : Int32)), .val (.int (1 : Int32))] [])) (fun t kt => XS.ifNo X255.here hx rfl (hb hby at_234) rfl (XT.i0_eq_f (by decide)) kt) ?_
          refine Go.st (S' := T255.setTop (mkF m 238 #[.val (.int p0), .val (.int p1), .val (.int p2), .val (.int p3), .val (.int ((p0 &&& (255 : Int32))).toUInt32.toUInt16.toUInt32.toInt32), .val (.int (((XT.ushr p0 (8 : Int32)) &&& (255 : Int32))).toUInt32.toUInt16.toUInt32.toInt32), .val (.int (p3 &&& (3 : Int32))), .val (.ref a189), .val (.int (1 : Int32)), .val (.ref a224), .val (.ref b236), .val (.int (1 : Int32)), .val (.int (1 : Int32))] [(.int (1 : Int32))])) (fun t kt => XS.iconst X255.here hx rfl (hb hby at_237) kt) ?_
          refine Go.st (S' := T255.setTop (mkF m 242 #[.val (.int p0), .val (.int p1), .val (.int p2), .val (.int p3), .val (.int ((p0 &&& (255 : Int32))).toUInt32.toUInt16.toUInt32.toInt32), .val (.int (((XT.ushr p0 (8 : Int32)) &&& (255 : Int32))).toUInt32.toUInt16.toUInt32.toInt32), .val (.int (p3 &&& (3 : Int32))), .val (.ref a189), .val (.int (1 : Int32)), .val (.ref a224), .val (.ref b236), .val (.int (1 : Int32)), .val (.int (1 : Int32))] [(.int (1 : Int32))])) (fun t kt => XS.goto X255.here hx rfl (pc0 := 238) (pc' := 242) rfl (hb hby at_238) (by decide) (by decide) kt) ?_
          exact retw_b X255 hZ hEL e255 C249 hS hk hx hlk hret (hb hby at_242) (by decide) (by decide) (⟨rfl, N255⟩)
set_option maxRecDepth 65536 in
set_option maxHeartbeats 40000000 in
theorem comes_1 {Post : Tables → Env → Array Value → State → Outcome → State → Prop} (hpost : ∀ tb e args s v u, (limb_1_1.after args s (.returned v) u = true ∧ limb_1_2.after args s (.returned v) u = true ∧ True) → ReturnedEndW s (.returned v) u (Jvm.fieldLocs frame_1_writes args s ++ Jvm.arrayLocs frame_1_arrays args s ++ Jvm.staticLocs frame_1_statics s) 24 1152 → Post tb e args s (.returned v) u) :
    ArmFor flags0 classFile x code maxLocals ret World_1 tables_1 room_1 Calls_1 rest_1 Pre_1 Post := by
  intro l hfl _ _ p e ha hc hk s m args below hf hA hF happ hP
  obtain ⟨hcalls, hrest, hpre⟩ := hP
  obtain ⟨-, -, -, hnamed, -, hinit0, -, hat⟩ := (Spec.applies_iff hf).mp happ
  obtain ⟨hg, hn⟩ := and_e (Cond.before_iff.mp (show (Jvm.Cond.and given_1 narrow_1).before args s = true from hpre))
  obtain ⟨hcount, hgs⟩ := and_e hg
  obtain ⟨hg0, hgs⟩ := and_e hgs
  obtain ⟨hg1, hgs⟩ := and_e hgs
  obtain ⟨hg2, hg3⟩ := and_e hgs
  obtain ⟨w0, w1, w2, w3, rfl⟩ : ∃ w0 w1 w2 w3 : Value, args = #[w0, w1, w2, w3] := by
    have hs : args.size = 4 := by simpa [Cond.value, given_1] using hcount
    obtain ⟨L⟩ := args
    match L, hs with
    | [w0, w1, w2, w3], _ => exact ⟨w0, w1, w2, w3, rfl⟩
  have hw := fun d (hd : d ∈ tables_1) => atoms_spec (ws := Jvm.Cond.code x code maxLocals ret :: tables_1) hat d (List.mem_cons_of_mem _ hd)
  have hfit : Fit s := fun {y c} hc i hi => by
    obtain ⟨ha, rfl⟩ := Array.getElem?_eq_some_iff.mp hc
    have q := List.all_eq_true.mp ((Array.all_eq_true_iff_forall_mem.mp hF) _ (Array.getElem_mem ha)) i (List.mem_range.mpr hi)
    simpa [Array.getElem?_eq_getElem hi] using q
  obtain ⟨hsets, hown0⟩ := atoms_of _ (rest_1_c_eq ▸ (show rest_1_c.before _ s = true from hrest))
  have hr0 := Cond.before_iff.mp hown0
  obtain ⟨i0, ei0⟩ := is_v hg0
  obtain rfl : w0 = (.int i0) := Option.some.inj ei0
  obtain ⟨i1, ei1⟩ := is_v hg1
  obtain rfl : w1 = (.int i1) := Option.some.inj ei1
  obtain ⟨i2, ei2⟩ := is_v hg2
  obtain rfl : w2 = (.int i2) := Option.some.inj ei2
  obtain ⟨i3, ei3⟩ := is_v hg3
  obtain rfl : w3 = (.int i3) := Option.some.inj ei3
  obtain ⟨cs, vcs⟩ := is_v (Cond.before_iff.mp (hsets _ (List.mem_of_getElem? (i := 1) rfl)))
  have S_cs := Sta.start vcs (Or.inl (hsets _ (List.mem_of_getElem? (i := 0) rfl)))
  have hcs : ¬ cs = 0 := gotF (own_eqI vcs (Term.int_eval 0)) (not_v (Cond.before_iff.mp (hsets _ (List.mem_of_getElem? (i := 2) rfl))))
  have hCH : CHv s own_EL s.vm s.heap := CHv.start (own_ew hw) (fun p hp => hcalls.1 p hp) (hsets _ (List.mem_of_getElem? (i := 2) rfl)) (hw _ (List.mem_of_getElem? (i := 19) rfl)) (hw _ (List.mem_of_getElem? (i := 1) rfl))
  obtain ⟨n, o, h1, h2, h3, _, L, rfl, ⟨rfl, N⟩, -, hq⟩ := rm0 l s _ hw i0 i1 i2 i3 s.heap s.heap.size (Nat.le_refl _) cs S_cs hcs tables_1 p e ha hc hk s m _ below hf ((Spec.applies_iff_loose hf).mp happ).1 ⟨rfl, State.Warmed39.refl s, rfl, hCH⟩ trivial
  refine ⟨n, _, h1, h2, h3, hpost _ _ _ _ _ _ ⟨Cond.after_iff.mpr rfl, Cond.after_iff.mpr (eq_i res_at (Term.int_eval (1)) rfl), trivial⟩ ⟨hq.1, hq.2.1, hq.2.2.1, (hq.2.2.2.sift fun y hy => Or.inr (N y hy)).mono (by decide) (by decide)⟩⟩
theorem main_1_1 : Claimed_1_1 := comes_1 fun _ _ _ _ _ _ h hF => ⟨h.1, hF⟩
theorem main_1_2 : Claimed_1_2 := comes_1 fun _ _ _ _ _ _ h hF => ⟨h.2.1, hF⟩
end Jvm.Pilot.@@N@@
namespace Jvm.Pilot.@@N@@
open Jvm Jvm.ClassFile Sem Op Lib Jvm.Free Jvm.Stand Jvm.Pilot.@@N@@.Jvm.D
/-! MADE BY PROGRAM (witnessworld.py) out of the Statement's table words and the real class files: 20 classes; the members and pool entries that the words name. The judged class is class 1, her method 1. -/
namespace start1
open Jvm.ClassFile
def u (s : String) : CpInfo := .utf8 (stringToUtf16 s)
/-- a pool by its gaps: so many unusable entries, then the entry; so many at the end -/
def gap : Nat → List CpInfo → List CpInfo
  | 0, r => r
  | n + 1, r => .unusable :: gap n r
def poolList (es : List (Nat × CpInfo)) (last : Nat) : List CpInfo := es.foldr (fun e r => gap e.1 (e.2 :: r)) (gap last [])
def pool (es : List (Nat × CpInfo)) (last : Nat) : Array CpInfo := ⟨poolList es last⟩
def fileOf (pool : Array CpInfo) (this : Nat) (attrs : Array Attribute := #[]) (ms : Array MethodInfo := #[]) (fl : Nat := 33) (sup : Nat := 0) (ifs : Array Nat := #[]) (fds : Array FieldInfo := #[]) : ClassFile where
  minorVersion := 0
  majorVersion := 65
  constantPool := pool
  accessFlags := fl
  thisClass := this
  superClass := sup
  interfaces := ifs
  fields := fds
  methods := ms
  attributes := attrs
def plain (name : String) (sup : Option ClassId) : Class where
  name := name
  kind := .ordinary
  loader := none
  accessFlags := 33
  super := sup
  interfaces := #[]
  cf := none
  fields := #[]
  methods := #[]
  instanceTypes := #[]
  staticTypes := #[]
  resolved := #[]
  callSites := []
  init := .initialized
  statics := none
  mirror := none

def pool0 : Array CpInfo := pool [(5, u "<init>"), (0, u "()V"), (1, .class_ 10), (1, u "java/lang/Object")] 113

def k0c0 : Code := { maxStack := 0, maxLocals := 1, code := object_method_1_code, exceptionTable := #[], attributes := #[] }
def k0m0 : Method := { name := "<init>", desc := "()V", sig := { parameters := [], returnType := none }, accessFlags := 1, code := some k0c0 }
/-- java/lang/Object -/
def k0 : Class := { plain "java/lang/Object" none with
  accessFlags := 33
  interfaces := #[]
  cf := some (fileOf pool0 8 #[] #[{ accessFlags := 1, nameIndex := 5, descriptorIndex := 6, attributes := #[] }] 33 0 #[] #[])
  fields := #[]
  methods := #[k0m0]
  instanceTypes := #[]
  staticTypes := #[]
  resolved := Array.replicate 124 none
  statics := none }

def pool1 : Array CpInfo := pool [(2, .class_ 4), (1, u "java/lang/Object"), (0, u "<init>"), (0, u "()V"), (0, .class_ 8), (0, u "java/lang/String"), (0, .methodref 7 10), (0, .nameAndType 5 11), (0, u "([C)V"), (0, .class_ 13), (0, u "com/example/seatwright/seatwright/engine/Bucket"), (0, .methodref 12 15), (0, .nameAndType 5 16), (0, u "(Ljava/lang/String;II)V"), (0, .methodref 12 18), (0, .nameAndType 19 20), (0, u "placeUnder"), (0, u "(Lcom/example/seatwright/seatwright/engine/Bucket;)V"), (0, .methodref 12 22), (0, .nameAndType 23 24), (0, u "copy"), (0, u "()Lcom/example/seatwright/seatwright/engine/Bucket;"), (0, .methodref 12 26), (0, .nameAndType 27 28), (0, u "unit"), (0, u "()Ljava/lang/String;"), (0, .methodref 12 30), (0, .nameAndType 31 32), (0, u "size"), (0, u "()I"), (0, .methodref 12 34), (0, .nameAndType 35 32), (0, u "inUse"), (0, .methodref 12 37), (0, .nameAndType 38 24), (0, u "above"), (0, .methodref 12 40), (0, .nameAndType 41 6), (0, u "take"), (0, .class_ 43), (0, u "com/example/seatwright/seatwright/engine/BucketCopyPinLaw"), (2, u "law"), (0, u "(IIII)Z")] 3

def k1m0 : Method := { name := "<init>", desc := "()V", sig := { parameters := [], returnType := none }, accessFlags := 1, code := none }
def k1c1 : Code := { maxStack := 6, maxLocals := 13, code := code, exceptionTable := #[], attributes := #[] }
def k1m1 : Method := { name := "law", desc := "(IIII)Z", sig := { parameters := [.int, .int, .int, .int], returnType := some .boolean }, accessFlags := 9, code := some k1c1 }
/-- com/example/seatwright/seatwright/engine/BucketCopyPinLaw -/
def k1 : Class := { plain "com/example/seatwright/seatwright/engine/BucketCopyPinLaw" (some 0) with
  accessFlags := 49
  interfaces := #[]
  cf := some (fileOf pool1 42 #[] #[{ accessFlags := 1, nameIndex := 5, descriptorIndex := 6, attributes := #[] }, { accessFlags := 9, nameIndex := 46, descriptorIndex := 47, attributes := #[] }] 49 2 #[] #[])
  fields := #[]
  methods := #[k1m0, k1m1]
  instanceTypes := #[]
  staticTypes := #[]
  resolved := Array.replicate 51 none
  statics := none }

def pool2 : Array CpInfo := pool [(1, .class_ 2), (0, u "java/io/Serializable"), (0, .class_ 4), (0, u "java/lang/Object")] 2

/-- java/io/Serializable -/
def k2 : Class := { plain "java/io/Serializable" (some 0) with
  accessFlags := 1537
  interfaces := #[]
  cf := some (fileOf pool2 1 #[] #[] 1537 3 #[] #[])
  fields := #[]
  methods := #[]
  instanceTypes := #[]
  staticTypes := #[]
  resolved := Array.replicate 7 none
  statics := none }

def pool3 : Array CpInfo := pool [(1, .class_ 2), (0, u "java/lang/Comparable"), (0, .class_ 4), (0, u "java/lang/Object")] 7

/-- java/lang/Comparable -/
def k3 : Class := { plain "java/lang/Comparable" (some 0) with
  accessFlags := 1537
  interfaces := #[]
  cf := some (fileOf pool3 1 #[] #[] 1537 3 #[] #[])
  fields := #[]
  methods := #[]
  instanceTypes := #[]
  staticTypes := #[]
  resolved := Array.replicate 12 none
  statics := none }

def pool4 : Array CpInfo := pool [(2, .class_ 4), (1, u "java/lang/CharSequence"), (42, .class_ 48), (0, u "java/lang/CharSequence$1CodePointIterator"), (10, .class_ 60), (0, u "java/lang/CharSequence$1CharIterator"), (5, .class_ 67), (0, u "java/lang/Object")] 63

/-- java/lang/CharSequence -/
def k4 : Class := { plain "java/lang/CharSequence" (some 0) with
  accessFlags := 1537
  interfaces := #[]
  cf := some (fileOf pool4 2 #[.nestMembers #[47, 59]] #[] 1537 66 #[] #[])
  fields := #[]
  methods := #[]
  instanceTypes := #[]
  staticTypes := #[]
  resolved := Array.replicate 131 none
  statics := none }

def pool5 : Array CpInfo := pool [(1, .class_ 2), (0, u "java/lang/constant/Constable"), (0, .class_ 4), (0, u "java/lang/Object")] 6

/-- java/lang/constant/Constable -/
def k5 : Class := { plain "java/lang/constant/Constable" (some 0) with
  accessFlags := 1537
  interfaces := #[]
  cf := some (fileOf pool5 1 #[] #[] 1537 3 #[] #[])
  fields := #[]
  methods := #[]
  instanceTypes := #[]
  staticTypes := #[]
  resolved := Array.replicate 11 none
  statics := none }

def pool6 : Array CpInfo := pool [(1, .class_ 2), (0, u "java/lang/constant/ConstantDesc"), (0, .class_ 4), (0, u "java/lang/Object")] 32

/-- java/lang/constant/ConstantDesc -/
def k6 : Class := { plain "java/lang/constant/ConstantDesc" (some 0) with
  accessFlags := 1537
  interfaces := #[]
  cf := some (fileOf pool6 1 #[] #[] 1537 3 #[] #[])
  fields := #[]
  methods := #[]
  instanceTypes := #[]
  staticTypes := #[]
  resolved := Array.replicate 37 none
  statics := none }

def pool7 : Array CpInfo := pool [(1, .methodref 2 3), (0, .class_ 4), (0, .nameAndType 5 6), (0, u "java/lang/Object"), (0, u "<init>"), (0, u "()V"), (0, .string 8), (0, u ""), (0, .fieldref 10 11), (0, .class_ 12), (0, .nameAndType 13 14), (0, u "java/lang/String"), (0, u "value"), (0, u "[B"), (0, .fieldref 10 16), (0, .nameAndType 17 18), (0, u "coder"), (0, u "B"), (2, u "hash"), (0, u "I"), (2, u "hashIsZero"), (0, u "Z"), (0, .methodref 10 28), (0, .nameAndType 5 29), (0, u "([CIILjava/lang/Void;)V"), (8, .fieldref 10 39), (0, .nameAndType 40 26), (0, u "COMPACT_STRINGS"), (1, .class_ 44), (1, u "java/lang/StringUTF16"), (0, u "compress"), (1, .methodref 42 48), (0, .nameAndType 49 50), (0, u "coderFromArrayLen"), (0, u "([BI)B"), (126, .methodref 42 178), (0, .nameAndType 45 179), (0, u "([CII)[B"), (395, .class_ 576), (0, u "java/lang/CharSequence"), (22, u "CASE_INSENSITIVE_ORDER"), (0, u "Ljava/util/Comparator;"), (409, u "([C)V"), (90, u "serialPersistentFields"), (0, u "[Ljava/io/ObjectStreamField;"), (0, .class_ 1104), (0, u "java/lang/String$CaseInsensitiveComparator"), (1, .class_ 1107), (0, u "java/io/Serializable"), (0, .class_ 1109), (0, u "java/lang/Comparable"), (0, .class_ 1111), (0, u "java/lang/constant/Constable"), (0, .class_ 1113), (0, u "java/lang/constant/ConstantDesc"), (2, u "serialVersionUID"), (0, u "J"), (3, u "REPL"), (0, u "C"), (2, u "LATIN1"), (1, u "UTF16")] 323

def k7m0 : Method := { name := "<init>", desc := "()V", sig := { parameters := [], returnType := none }, accessFlags := 1, code := none }
def k7c1 : Code := { maxStack := 5, maxLocals := 2, code := jdk_42_method_3_code, exceptionTable := #[], attributes := #[] }
def k7m1 : Method := { name := "<init>", desc := "([C)V", sig := { parameters := [(.array .char)], returnType := none }, accessFlags := 1, code := some k7c1 }
def k7c2 : Code := { maxStack := 4, maxLocals := 6, code := jdk_42_method_149_code, exceptionTable := #[], attributes := #[] }
def k7m2 : Method := { name := "<init>", desc := "([CIILjava/lang/Void;)V", sig := { parameters := [(.array .char), .int, .int, (.object "java/lang/Void")], returnType := none }, accessFlags := 2, code := some k7c2 }
/-- java/lang/String -/
def k7 : Class := { plain "java/lang/String" (some 0) with
  accessFlags := 49
  interfaces := #[2, 3, 4, 5, 6]
  cf := some (fileOf pool7 10 #[.nestMembers #[1103]] #[{ accessFlags := 1, nameIndex := 5, descriptorIndex := 6, attributes := #[] }, { accessFlags := 1, nameIndex := 5, descriptorIndex := 1010, attributes := #[] }, { accessFlags := 2, nameIndex := 5, descriptorIndex := 29, attributes := #[] }] 49 2 #[1106, 1108, 575, 1110, 1112] #[{ accessFlags := 18, nameIndex := 13, descriptorIndex := 14, attributes := #[] }, { accessFlags := 18, nameIndex := 17, descriptorIndex := 18, attributes := #[] }, { accessFlags := 2, nameIndex := 21, descriptorIndex := 22, attributes := #[] }, { accessFlags := 2, nameIndex := 25, descriptorIndex := 26, attributes := #[] }, { accessFlags := 26, nameIndex := 1116, descriptorIndex := 1117, attributes := #[] }, { accessFlags := 24, nameIndex := 40, descriptorIndex := 26, attributes := #[] }, { accessFlags := 26, nameIndex := 1101, descriptorIndex := 1102, attributes := #[] }, { accessFlags := 26, nameIndex := 1121, descriptorIndex := 1122, attributes := #[] }, { accessFlags := 25, nameIndex := 599, descriptorIndex := 600, attributes := #[] }, { accessFlags := 24, nameIndex := 1125, descriptorIndex := 18, attributes := #[] }, { accessFlags := 24, nameIndex := 1127, descriptorIndex := 18, attributes := #[] }])
  fields := #[{ name := "value", type := (.array .byte), accessFlags := 18, slot := 0, constantValue := 0 }, { name := "coder", type := .byte, accessFlags := 18, slot := 1, constantValue := 0 }, { name := "hash", type := .int, accessFlags := 2, slot := 2, constantValue := 0 }, { name := "hashIsZero", type := .boolean, accessFlags := 2, slot := 3, constantValue := 0 }, { name := "serialVersionUID", type := .long, accessFlags := 26, slot := 0, constantValue := 0 }, { name := "COMPACT_STRINGS", type := .boolean, accessFlags := 24, slot := 1, constantValue := 0 }, { name := "serialPersistentFields", type := (.array (.object "java/io/ObjectStreamField")), accessFlags := 26, slot := 2, constantValue := 0 }, { name := "REPL", type := .char, accessFlags := 26, slot := 3, constantValue := 0 }, { name := "CASE_INSENSITIVE_ORDER", type := (.object "java/util/Comparator"), accessFlags := 25, slot := 4, constantValue := 0 }, { name := "LATIN1", type := .byte, accessFlags := 24, slot := 5, constantValue := 0 }, { name := "UTF16", type := .byte, accessFlags := 24, slot := 6, constantValue := 0 }]
  methods := #[k7m0, k7m1, k7m2]
  instanceTypes := #[(.array .byte), .byte, .int, .boolean]
  staticTypes := #[.long, .boolean, (.array (.object "java/io/ObjectStreamField")), .char, (.object "java/util/Comparator"), .byte, .byte]
  resolved := Array.replicate 1451 none
  statics := some 0 }

def pool8 : Array CpInfo := pool [(6, .class_ 8), (1, u "java/lang/Object"), (0, u "<init>"), (0, u "()V"), (1, .class_ 14), (1, u "java/lang/StringUTF16"), (31, u "$assertionsDisabled"), (0, u "Z"), (13, u "HI_BYTE_SHIFT"), (0, u "I"), (2, u "LO_BYTE_SHIFT"), (49, .methodref 12 116), (0, .nameAndType 117 118), (0, u "compress"), (0, u "([CI[BII)I"), (3, u "([CII)[B"), (138, u "coderFromArrayLen"), (0, u "([BI)B"), (106, .class_ 371), (1, u "java/lang/StringUTF16$LinesSpliterator"), (58, u "MAX_LENGTH"), (196, .class_ 628), (0, u "java/lang/StringUTF16$CodePointsSpliterator"), (0, .class_ 630), (0, u "java/lang/StringUTF16$CharsSpliterator")] 4

def k8m0 : Method := { name := "<init>", desc := "()V", sig := { parameters := [], returnType := none }, accessFlags := 0, code := none }
def k8c1 : Code := { maxStack := 2, maxLocals := 2, code := jdk_52_method_15_code, exceptionTable := #[], attributes := #[] }
def k8m1 : Method := { name := "coderFromArrayLen", desc := "([BI)B", sig := { parameters := [(.array .byte), .int], returnType := some .byte }, accessFlags := 8, code := some k8c1 }
def k8c2 : Code := { maxStack := 5, maxLocals := 6, code := jdk_52_method_16_code, exceptionTable := #[], attributes := #[] }
def k8m2 : Method := { name := "compress", desc := "([CII)[B", sig := { parameters := [(.array .char), .int, .int], returnType := some (.array .byte) }, accessFlags := 9, code := some k8c2 }
def k8c3 : Code := { maxStack := 3, maxLocals := 7, code := jdk_52_method_21_code, exceptionTable := #[], attributes := #[] }
def k8m3 : Method := { name := "compress", desc := "([CI[BII)I", sig := { parameters := [(.array .char), .int, (.array .byte), .int, .int], returnType := some .int }, accessFlags := 9, code := some k8c3 }
/-- java/lang/StringUTF16 -/
def k8 : Class := { plain "java/lang/StringUTF16" (some 0) with
  accessFlags := 48
  interfaces := #[]
  cf := some (fileOf pool8 12 #[.nestMembers #[627, 629, 369]] #[{ accessFlags := 0, nameIndex := 9, descriptorIndex := 10, attributes := #[] }, { accessFlags := 8, nameIndex := 261, descriptorIndex := 262, attributes := #[] }, { accessFlags := 9, nameIndex := 117, descriptorIndex := 122, attributes := #[] }, { accessFlags := 9, nameIndex := 117, descriptorIndex := 118, attributes := #[] }] 48 6 #[] #[{ accessFlags := 26, nameIndex := 61, descriptorIndex := 62, attributes := #[] }, { accessFlags := 26, nameIndex := 65, descriptorIndex := 62, attributes := #[] }, { accessFlags := 24, nameIndex := 430, descriptorIndex := 62, attributes := #[] }, { accessFlags := 4120, nameIndex := 46, descriptorIndex := 47, attributes := #[] }])
  fields := #[{ name := "HI_BYTE_SHIFT", type := .int, accessFlags := 26, slot := 0, constantValue := 0 }, { name := "LO_BYTE_SHIFT", type := .int, accessFlags := 26, slot := 1, constantValue := 0 }, { name := "MAX_LENGTH", type := .int, accessFlags := 24, slot := 2, constantValue := 0 }, { name := "$assertionsDisabled", type := .boolean, accessFlags := 4120, slot := 3, constantValue := 0 }]
  methods := #[k8m0, k8m1, k8m2, k8m3]
  instanceTypes := #[]
  staticTypes := #[.int, .int, .int, .boolean]
  resolved := Array.replicate 635 none
  statics := none }

def pool9 : Array CpInfo := pool [(1, .methodref 2 3), (0, .class_ 4), (0, .nameAndType 5 6), (0, u "java/lang/Object"), (0, u "<init>"), (0, u "()V"), (0, .fieldref 8 9), (0, .class_ 10), (0, .nameAndType 11 12), (0, u "com/example/seatwright/seatwright/engine/Bucket"), (0, u "unit"), (0, u "Ljava/lang/String;"), (0, .fieldref 8 14), (0, .nameAndType 15 16), (0, u "size"), (0, u "I"), (0, .fieldref 8 18), (0, .nameAndType 19 16), (0, u "inUse"), (3, u "()I"), (0, .fieldref 8 25), (0, .nameAndType 26 27), (0, u "above"), (0, u "Lcom/example/seatwright/seatwright/engine/Bucket;"), (0, .methodref 8 29), (0, .nameAndType 5 30), (0, u "(Ljava/lang/String;II)V"), (2, u "()Ljava/lang/String;"), (3, u "take"), (1, u "()Lcom/example/seatwright/seatwright/engine/Bucket;"), (0, u "placeUnder"), (0, u "(Lcom/example/seatwright/seatwright/engine/Bucket;)V"), (0, u "copy")] 2

def k9c0 : Code := { maxStack := 2, maxLocals := 4, code := prog_6_method_1_code, exceptionTable := #[], attributes := #[] }
def k9m0 : Method := { name := "<init>", desc := "(Ljava/lang/String;II)V", sig := { parameters := [(.object "java/lang/String"), .int, .int], returnType := none }, accessFlags := 0, code := some k9c0 }
def k9c1 : Code := { maxStack := 1, maxLocals := 1, code := prog_6_method_2_code, exceptionTable := #[], attributes := #[] }
def k9m1 : Method := { name := "unit", desc := "()Ljava/lang/String;", sig := { parameters := [], returnType := some (.object "java/lang/String") }, accessFlags := 1, code := some k9c1 }
def k9c2 : Code := { maxStack := 1, maxLocals := 1, code := prog_6_method_3_code, exceptionTable := #[], attributes := #[] }
def k9m2 : Method := { name := "size", desc := "()I", sig := { parameters := [], returnType := some .int }, accessFlags := 1, code := some k9c2 }
def k9c3 : Code := { maxStack := 1, maxLocals := 1, code := prog_6_method_4_code, exceptionTable := #[], attributes := #[] }
def k9m3 : Method := { name := "inUse", desc := "()I", sig := { parameters := [], returnType := some .int }, accessFlags := 1, code := some k9c3 }
def k9c4 : Code := { maxStack := 3, maxLocals := 1, code := prog_6_method_7_code, exceptionTable := #[], attributes := #[] }
def k9m4 : Method := { name := "take", desc := "()V", sig := { parameters := [], returnType := none }, accessFlags := 0, code := some k9c4 }
def k9c5 : Code := { maxStack := 1, maxLocals := 1, code := prog_6_method_9_code, exceptionTable := #[], attributes := #[] }
def k9m5 : Method := { name := "above", desc := "()Lcom/example/seatwright/seatwright/engine/Bucket;", sig := { parameters := [], returnType := some (.object "com/example/seatwright/seatwright/engine/Bucket") }, accessFlags := 0, code := some k9c5 }
def k9c6 : Code := { maxStack := 2, maxLocals := 2, code := prog_6_method_10_code, exceptionTable := #[], attributes := #[] }
def k9m6 : Method := { name := "placeUnder", desc := "(Lcom/example/seatwright/seatwright/engine/Bucket;)V", sig := { parameters := [(.object "com/example/seatwright/seatwright/engine/Bucket")], returnType := none }, accessFlags := 0, code := some k9c6 }
def k9c7 : Code := { maxStack := 5, maxLocals := 1, code := prog_6_method_11_code, exceptionTable := #[], attributes := #[] }
def k9m7 : Method := { name := "copy", desc := "()Lcom/example/seatwright/seatwright/engine/Bucket;", sig := { parameters := [], returnType := some (.object "com/example/seatwright/seatwright/engine/Bucket") }, accessFlags := 0, code := some k9c7 }
/-- com/example/seatwright/seatwright/engine/Bucket -/
def k9 : Class := { plain "com/example/seatwright/seatwright/engine/Bucket" (some 0) with
  accessFlags := 33
  interfaces := #[]
  cf := some (fileOf pool9 8 #[] #[{ accessFlags := 0, nameIndex := 5, descriptorIndex := 30, attributes := #[] }, { accessFlags := 1, nameIndex := 11, descriptorIndex := 33, attributes := #[] }, { accessFlags := 1, nameIndex := 15, descriptorIndex := 23, attributes := #[] }, { accessFlags := 1, nameIndex := 19, descriptorIndex := 23, attributes := #[] }, { accessFlags := 0, nameIndex := 37, descriptorIndex := 6, attributes := #[] }, { accessFlags := 0, nameIndex := 26, descriptorIndex := 39, attributes := #[] }, { accessFlags := 0, nameIndex := 40, descriptorIndex := 41, attributes := #[] }, { accessFlags := 0, nameIndex := 42, descriptorIndex := 39, attributes := #[] }] 33 2 #[] #[{ accessFlags := 18, nameIndex := 11, descriptorIndex := 12, attributes := #[] }, { accessFlags := 18, nameIndex := 15, descriptorIndex := 16, attributes := #[] }, { accessFlags := 2, nameIndex := 19, descriptorIndex := 16, attributes := #[] }, { accessFlags := 2, nameIndex := 26, descriptorIndex := 27, attributes := #[] }])
  fields := #[{ name := "unit", type := (.object "java/lang/String"), accessFlags := 18, slot := 0, constantValue := 0 }, { name := "size", type := .int, accessFlags := 18, slot := 1, constantValue := 0 }, { name := "inUse", type := .int, accessFlags := 2, slot := 2, constantValue := 0 }, { name := "above", type := (.object "com/example/seatwright/seatwright/engine/Bucket"), accessFlags := 2, slot := 3, constantValue := 0 }]
  methods := #[k9m0, k9m1, k9m2, k9m3, k9m4, k9m5, k9m6, k9m7]
  instanceTypes := #[(.object "java/lang/String"), .int, .int, (.object "com/example/seatwright/seatwright/engine/Bucket")]
  staticTypes := #[]
  resolved := Array.replicate 45 none
  statics := none }

def pool10 : Array CpInfo := pool [(4, .class_ 6), (1, u "java/lang/Object"), (0, u "<init>"), (0, u "()V"), (5, .class_ 16), (1, u "java/lang/StringLatin1"), (104, u "$assertionsDisabled"), (0, u "Z"), (98, .class_ 223), (1, u "java/lang/StringLatin1$LinesSpliterator"), (166, .class_ 391), (0, u "java/lang/StringLatin1$CharsSpliterator")] 3

def k10m0 : Method := { name := "<init>", desc := "()V", sig := { parameters := [], returnType := none }, accessFlags := 0, code := none }
/-- java/lang/StringLatin1 -/
def k10 : Class := { plain "java/lang/StringLatin1" (some 0) with
  accessFlags := 48
  interfaces := #[]
  cf := some (fileOf pool10 14 #[.nestMembers #[390, 221]] #[{ accessFlags := 0, nameIndex := 7, descriptorIndex := 8, attributes := #[] }] 48 4 #[] #[{ accessFlags := 4120, nameIndex := 121, descriptorIndex := 122, attributes := #[] }])
  fields := #[{ name := "$assertionsDisabled", type := .boolean, accessFlags := 4120, slot := 0, constantValue := 0 }]
  methods := #[k10m0]
  instanceTypes := #[]
  staticTypes := #[.boolean]
  resolved := Array.replicate 395 none
  statics := none }

def pool11 : Array CpInfo := pool [(2, .class_ 4), (1, u "java/lang/Object"), (0, u "<init>"), (0, u "()V"), (17, .class_ 26), (1, u "jdk/internal/util/Preconditions"), (28, .class_ 56), (0, u "jdk/internal/util/Preconditions$4"), (57, .class_ 115), (0, u "jdk/internal/util/Preconditions$1"), (7, u "SIOOBE_FORMATTER"), (0, u "Ljava/util/function/BiFunction;"), (0, .class_ 126), (0, u "jdk/internal/util/Preconditions$2"), (3, u "AIOOBE_FORMATTER"), (0, .class_ 132), (0, u "jdk/internal/util/Preconditions$3"), (3, u "IOOBE_FORMATTER")] 57

def k11m0 : Method := { name := "<init>", desc := "()V", sig := { parameters := [], returnType := none }, accessFlags := 1, code := none }
/-- jdk/internal/util/Preconditions -/
def k11 : Class := { plain "jdk/internal/util/Preconditions" (some 0) with
  accessFlags := 33
  interfaces := #[]
  cf := some (fileOf pool11 24 #[.nestMembers #[55, 131, 125, 114]] #[{ accessFlags := 1, nameIndex := 5, descriptorIndex := 6, attributes := #[] }] 33 2 #[] #[{ accessFlags := 25, nameIndex := 123, descriptorIndex := 124, attributes := #[] }, { accessFlags := 25, nameIndex := 130, descriptorIndex := 124, attributes := #[] }, { accessFlags := 25, nameIndex := 136, descriptorIndex := 124, attributes := #[] }])
  fields := #[{ name := "SIOOBE_FORMATTER", type := (.object "java/util/function/BiFunction"), accessFlags := 25, slot := 0, constantValue := 0 }, { name := "AIOOBE_FORMATTER", type := (.object "java/util/function/BiFunction"), accessFlags := 25, slot := 1, constantValue := 0 }, { name := "IOOBE_FORMATTER", type := (.object "java/util/function/BiFunction"), accessFlags := 25, slot := 2, constantValue := 0 }]
  methods := #[k11m0]
  instanceTypes := #[]
  staticTypes := #[(.object "java/util/function/BiFunction"), (.object "java/util/function/BiFunction"), (.object "java/util/function/BiFunction")]
  resolved := Array.replicate 194 none
  statics := some 1 }

def pool12 : Array CpInfo := pool [(9, u "<init>"), (6, .class_ 18), (1, u "java/lang/Object"), (0, u "()V"), (1, .class_ 23), (1, u "jdk/internal/util/ArraysSupport"), (0, u "LOG2_ARRAY_LONG_INDEX_SCALE"), (0, u "I"), (2, u "U"), (0, u "Ljdk/internal/misc/Unsafe;"), (8, u "BIG_ENDIAN"), (0, u "Z"), (8, u "LOG2_BYTE_BIT_SIZE"), (4, u "LOG2_ARRAY_INT_INDEX_SCALE"), (54, u "JLA"), (0, u "Ljdk/internal/access/JavaLangAccess;"), (11, u "LOG2_ARRAY_BOOLEAN_INDEX_SCALE"), (9, u "LOG2_ARRAY_BYTE_INDEX_SCALE"), (5, u "LOG2_ARRAY_CHAR_INDEX_SCALE"), (5, u "LOG2_ARRAY_SHORT_INDEX_SCALE"), (18, u "LOG2_ARRAY_FLOAT_INDEX_SCALE"), (24, u "LOG2_ARRAY_DOUBLE_INDEX_SCALE"), (89, u "T_BOOLEAN"), (2, u "T_CHAR"), (1, u "T_FLOAT"), (1, u "T_DOUBLE"), (1, u "T_BYTE"), (1, u "T_SHORT"), (1, u "T_INT"), (1, u "T_LONG"), (1, u "SOFT_MAX_ARRAY_LENGTH")] 83

def k12m0 : Method := { name := "<init>", desc := "()V", sig := { parameters := [], returnType := none }, accessFlags := 2, code := none }
/-- jdk/internal/util/ArraysSupport -/
def k12 : Class := { plain "jdk/internal/util/ArraysSupport" (some 0) with
  accessFlags := 33
  interfaces := #[]
  cf := some (fileOf pool12 21 #[] #[{ accessFlags := 2, nameIndex := 9, descriptorIndex := 19, attributes := #[] }] 33 16 #[] #[{ accessFlags := 24, nameIndex := 28, descriptorIndex := 29, attributes := #[] }, { accessFlags := 26, nameIndex := 38, descriptorIndex := 39, attributes := #[] }, { accessFlags := 25, nameIndex := 121, descriptorIndex := 25, attributes := #[] }, { accessFlags := 25, nameIndex := 131, descriptorIndex := 25, attributes := #[] }, { accessFlags := 25, nameIndex := 137, descriptorIndex := 25, attributes := #[] }, { accessFlags := 25, nameIndex := 143, descriptorIndex := 25, attributes := #[] }, { accessFlags := 25, nameIndex := 53, descriptorIndex := 25, attributes := #[] }, { accessFlags := 25, nameIndex := 24, descriptorIndex := 25, attributes := #[] }, { accessFlags := 25, nameIndex := 162, descriptorIndex := 25, attributes := #[] }, { accessFlags := 25, nameIndex := 187, descriptorIndex := 25, attributes := #[] }, { accessFlags := 26, nameIndex := 48, descriptorIndex := 25, attributes := #[] }, { accessFlags := 25, nameIndex := 277, descriptorIndex := 25, attributes := #[] }, { accessFlags := 25, nameIndex := 280, descriptorIndex := 25, attributes := #[] }, { accessFlags := 25, nameIndex := 282, descriptorIndex := 25, attributes := #[] }, { accessFlags := 25, nameIndex := 284, descriptorIndex := 25, attributes := #[] }, { accessFlags := 25, nameIndex := 286, descriptorIndex := 25, attributes := #[] }, { accessFlags := 25, nameIndex := 288, descriptorIndex := 25, attributes := #[] }, { accessFlags := 25, nameIndex := 290, descriptorIndex := 25, attributes := #[] }, { accessFlags := 25, nameIndex := 292, descriptorIndex := 25, attributes := #[] }, { accessFlags := 26, nameIndex := 108, descriptorIndex := 109, attributes := #[] }, { accessFlags := 25, nameIndex := 294, descriptorIndex := 25, attributes := #[] }])
  fields := #[{ name := "U", type := (.object "jdk/internal/misc/Unsafe"), accessFlags := 24, slot := 0, constantValue := 0 }, { name := "BIG_ENDIAN", type := .boolean, accessFlags := 26, slot := 1, constantValue := 0 }, { name := "LOG2_ARRAY_BOOLEAN_INDEX_SCALE", type := .int, accessFlags := 25, slot := 2, constantValue := 0 }, { name := "LOG2_ARRAY_BYTE_INDEX_SCALE", type := .int, accessFlags := 25, slot := 3, constantValue := 0 }, { name := "LOG2_ARRAY_CHAR_INDEX_SCALE", type := .int, accessFlags := 25, slot := 4, constantValue := 0 }, { name := "LOG2_ARRAY_SHORT_INDEX_SCALE", type := .int, accessFlags := 25, slot := 5, constantValue := 0 }, { name := "LOG2_ARRAY_INT_INDEX_SCALE", type := .int, accessFlags := 25, slot := 6, constantValue := 0 }, { name := "LOG2_ARRAY_LONG_INDEX_SCALE", type := .int, accessFlags := 25, slot := 7, constantValue := 0 }, { name := "LOG2_ARRAY_FLOAT_INDEX_SCALE", type := .int, accessFlags := 25, slot := 8, constantValue := 0 }, { name := "LOG2_ARRAY_DOUBLE_INDEX_SCALE", type := .int, accessFlags := 25, slot := 9, constantValue := 0 }, { name := "LOG2_BYTE_BIT_SIZE", type := .int, accessFlags := 26, slot := 10, constantValue := 0 }, { name := "T_BOOLEAN", type := .int, accessFlags := 25, slot := 11, constantValue := 0 }, { name := "T_CHAR", type := .int, accessFlags := 25, slot := 12, constantValue := 0 }, { name := "T_FLOAT", type := .int, accessFlags := 25, slot := 13, constantValue := 0 }, { name := "T_DOUBLE", type := .int, accessFlags := 25, slot := 14, constantValue := 0 }, { name := "T_BYTE", type := .int, accessFlags := 25, slot := 15, constantValue := 0 }, { name := "T_SHORT", type := .int, accessFlags := 25, slot := 16, constantValue := 0 }, { name := "T_INT", type := .int, accessFlags := 25, slot := 17, constantValue := 0 }, { name := "T_LONG", type := .int, accessFlags := 25, slot := 18, constantValue := 0 }, { name := "JLA", type := (.object "jdk/internal/access/JavaLangAccess"), accessFlags := 26, slot := 19, constantValue := 0 }, { name := "SOFT_MAX_ARRAY_LENGTH", type := .int, accessFlags := 25, slot := 20, constantValue := 0 }]
  methods := #[k12m0]
  instanceTypes := #[]
  staticTypes := #[(.object "jdk/internal/misc/Unsafe"), .boolean, .int, .int, .int, .int, .int, .int, .int, .int, .int, .int, .int, .int, .int, .int, .int, .int, .int, (.object "jdk/internal/access/JavaLangAccess"), .int]
  resolved := Array.replicate 378 none
  statics := none }

def pool13 : Array CpInfo := pool [(1, u "java/lang/Cloneable"), (0, .class_ 1), (0, u "java/lang/Object"), (0, .class_ 3)] 3

/-- java/lang/Cloneable -/
def k13 : Class := { plain "java/lang/Cloneable" (some 0) with
  accessFlags := 1537
  interfaces := #[]
  cf := some (fileOf pool13 2 #[] #[] 1537 4 #[] #[])
  fields := #[]
  methods := #[]
  instanceTypes := #[]
  staticTypes := #[]
  resolved := Array.replicate 8 none
  statics := none }

/-- the primitive byte -/
def k14 : Class := { plain "byte" none with kind := .primitive 'B', accessFlags := 0x411 }
/-- [B -/
def k15 : Class := { plain "[B" (some 0) with kind := .array 14 .byte, interfaces := #[13, 2], accessFlags := 1041 }

/-- the primitive char -/
def k16 : Class := { plain "char" none with kind := .primitive 'C', accessFlags := 0x411 }
/-- [C -/
def k17 : Class := { plain "[C" (some 0) with kind := .array 16 .char, interfaces := #[13, 2], accessFlags := 1041 }

/-- the primitive int -/
def k18 : Class := { plain "int" none with kind := .primitive 'I', accessFlags := 0x411 }
/-- [I -/
def k19 : Class := { plain "[I" (some 0) with kind := .array 18 .int, interfaces := #[13, 2], accessFlags := 1041 }

def heap : Heap := #[{ cls := 7, slots := #[.long 0, .int 1, .null, .int 0, .null, .int 0, .int 0], vm := .statics 7 },
  { cls := 11, slots := #[.null, .null, .null], vm := .statics 11 }]
def classes : Array Class := #[k0, k1, k2, k3, k4, k5, k6, k7, k8, k9, k10, k11, k12, k13, k14, k15, k16, k17, k18, k19]
def interned : List (Array UInt16 × Addr) := []
def slotsUsed : Nat := 10
def theMethod : MethodId := ⟨1, 1⟩
def args0 : Array Value := #[.int 5, .int 3, .int 1, .int 2]
def aboutOver (below : List Frame) : State where
  vm := { classes := classes, interned := interned.toArray }
  heap := heap
  slotsUsed := slotsUsed
  threads := #[{ frames := .invoking theMethod args0 :: below }]
def below0 : List Frame := [.native { method := ⟨0, 0⟩, args := #[] }]
def about1 : State := aboutOver below0
def p0 : Program := .bare "" "" ""
def e0 : Env := launch0.env 0 0 0
theorem w_frames : about1.frames = Frame.invoking theMethod args0 :: below0 := rfl
set_option maxRecDepth 65536 in
theorem w_args : argsFit about1.vm theMethod args0 = true := by decide +kernel
set_option maxRecDepth 65536 in
theorem w_heap : heapFits about1 = true := by decide +kernel
set_option maxRecDepth 65536 in
theorem w_runnable : about1.curStatus? = some .runnable := by decide +kernel
set_option maxRecDepth 65536 in
theorem w_alone : about1.alone = true := by decide +kernel
set_option maxRecDepth 65536 in
theorem w_named : about1.methodNamed? x = some theMethod := by decide +kernel
set_option maxRecDepth 65536 in
theorem w_hears : about1.hears theMethod below0 = true := by decide +kernel
set_option maxRecDepth 65536 in
theorem w_ripe : about1.ripe theMethod args0 below0 = true := by decide +kernel
theorem w_running : about1.status = .running := rfl
set_option maxRecDepth 65536 in
theorem w_room : about1.hasRoom e0.platform room_1 = true :=
  launch0.hasRoom_least _ room_1 (by decide +kernel) (by decide +kernel) (by decide +kernel) (by decide +kernel) (by decide +kernel) (by decide +kernel)
theorem allAtoms_all (ts : List Jvm.Cond) (a : Array Jvm.Value) (st : Jvm.State) : (allAtoms ts).before a st = ts.all (fun c => c.before a st) := by
  induction ts with
  | nil => rfl
  | cons c t ih =>
    show (Jvm.Cond.and c (allAtoms t)).before a st = _
    rw [Jvm.Cond.before_and, ih, List.all_cons]
def words1 : List Jvm.Cond := Jvm.Cond.code x code maxLocals ret :: tables_1
/-- a 'code' word, met by the world's own term for the bytes: nothing is compared byte by byte -/
theorem code_word {y : MethodName} {bytes : ByteArray} {mx : Nat} {rt : Option FieldType} {a : Array Value} {s : State} {m : MethodId} {meth : Method} {c : Code} (h1 : s.methodNamed? y = some m) (h2 : s.vm.method? m = some meth) (h3 : meth.code = some c) (h4 : c.code = bytes)
    (h5 : (c.maxLocals == mx && c.exceptionTable.isEmpty && decide (c.maxStack ≤ mostOperands) && decide (meth.sig.returnType = rt) && !meth.locks && decide (parseMethodDescriptor y.desc = some meth.sig)) = true) : (Jvm.Cond.code y bytes mx rt).before a s = true := by
  simp only [Bool.and_eq_true, beq_iff_eq, Bool.not_eq_true', decide_eq_true_eq] at h5
  obtain ⟨⟨⟨⟨⟨g1, g2⟩, g3⟩, g4⟩, g5⟩, g6⟩ := h5
  simp [Cond.before, Cond.holds, Cond.value, h1, h2, h3, h4, g1, g2, g3, g4, g5, g6]
def isCode : Jvm.Cond → Bool
  | .code _ _ _ _ => true
  | _ => false
theorem all_split {L : List Jvm.Cond} {P : Jvm.Cond → Bool} (h1 : L.all (fun c => isCode c || P c) = true) (h2 : ∀ c ∈ L.filter isCode, P c = true) : L.all P = true := by
  refine List.all_eq_true.mpr fun c hc => ?_
  have h := List.all_eq_true.mp h1 c hc
  rcases Bool.eq_false_or_eq_true (isCode c) with hi | hi
  · exact h2 c (List.mem_filter.mpr ⟨hc, hi⟩)
  · simpa [hi] using h
set_option maxRecDepth 65536 in
theorem w_c0 : (Jvm.Cond.code x code maxLocals ret).before args0 about1 = true := code_word (m := ⟨1, 1⟩) (meth := k1m1) (c := k1c1) (by decide +kernel) rfl rfl rfl (by decide +kernel)
set_option maxRecDepth 65536 in
theorem w_c1 : (Jvm.Cond.code ({ cls := "java/lang/String", name := "<init>", desc := "([C)V" } : Jvm.MethodName) jdk_42_method_3_code (2 : Nat) (Option.none : Option Jvm.ClassFile.FieldType)).before args0 about1 = true := code_word (m := ⟨7, 1⟩) (meth := k7m1) (c := k7c1) (by decide +kernel) rfl rfl rfl (by decide +kernel)
set_option maxRecDepth 65536 in
theorem w_c2 : (Jvm.Cond.code ({ cls := "java/lang/String", name := "<init>", desc := "([CIILjava/lang/Void;)V" } : Jvm.MethodName) jdk_42_method_149_code (6 : Nat) (Option.none : Option Jvm.ClassFile.FieldType)).before args0 about1 = true := code_word (m := ⟨7, 2⟩) (meth := k7m2) (c := k7c2) (by decide +kernel) rfl rfl rfl (by decide +kernel)
set_option maxRecDepth 65536 in
theorem w_c3 : (Jvm.Cond.code ({ cls := "java/lang/Object", name := "<init>", desc := "()V" } : Jvm.MethodName) object_method_1_code (1 : Nat) (Option.none : Option Jvm.ClassFile.FieldType)).before args0 about1 = true := code_word (m := ⟨0, 0⟩) (meth := k0m0) (c := k0c0) (by decide +kernel) rfl rfl rfl (by decide +kernel)
set_option maxRecDepth 65536 in
theorem w_c4 : (Jvm.Cond.code ({ cls := "java/lang/StringUTF16", name := "compress", desc := "([CII)[B" } : Jvm.MethodName) jdk_52_method_16_code (6 : Nat) (Option.some (Jvm.ClassFile.FieldType.array Jvm.ClassFile.FieldType.byte))).before args0 about1 = true := code_word (m := ⟨8, 2⟩) (meth := k8m2) (c := k8c2) (by decide +kernel) rfl rfl rfl (by decide +kernel)
set_option maxRecDepth 65536 in
theorem w_c5 : (Jvm.Cond.code ({ cls := "java/lang/StringUTF16", name := "compress", desc := "([CI[BII)I" } : Jvm.MethodName) jdk_52_method_21_code (7 : Nat) (Option.some Jvm.ClassFile.FieldType.int)).before args0 about1 = true := code_word (m := ⟨8, 3⟩) (meth := k8m3) (c := k8c3) (by decide +kernel) rfl rfl rfl (by decide +kernel)
set_option maxRecDepth 65536 in
theorem w_c6 : (Jvm.Cond.code ({ cls := "java/lang/StringUTF16", name := "coderFromArrayLen", desc := "([BI)B" } : Jvm.MethodName) jdk_52_method_15_code (2 : Nat) (Option.some Jvm.ClassFile.FieldType.byte)).before args0 about1 = true := code_word (m := ⟨8, 1⟩) (meth := k8m1) (c := k8c1) (by decide +kernel) rfl rfl rfl (by decide +kernel)
set_option maxRecDepth 65536 in
theorem w_c7 : (Jvm.Cond.code ({ cls := "com/example/seatwright/seatwright/engine/Bucket", name := "<init>", desc := "(Ljava/lang/String;II)V" } : Jvm.MethodName) prog_6_method_1_code (4 : Nat) (Option.none : Option Jvm.ClassFile.FieldType)).before args0 about1 = true := code_word (m := ⟨9, 0⟩) (meth := k9m0) (c := k9c0) (by decide +kernel) rfl rfl rfl (by decide +kernel)
set_option maxRecDepth 65536 in
theorem w_c8 : (Jvm.Cond.code ({ cls := "com/example/seatwright/seatwright/engine/Bucket", name := "copy", desc := "()Lcom/example/seatwright/seatwright/engine/Bucket;" } : Jvm.MethodName) prog_6_method_11_code (1 : Nat) (Option.some (Jvm.ClassFile.FieldType.object "com/example/seatwright/seatwright/engine/Bucket"))).before args0 about1 = true := code_word (m := ⟨9, 7⟩) (meth := k9m7) (c := k9c7) (by decide +kernel) rfl rfl rfl (by decide +kernel)
set_option maxRecDepth 65536 in
theorem w_c9 : (Jvm.Cond.code ({ cls := "com/example/seatwright/seatwright/engine/Bucket", name := "unit", desc := "()Ljava/lang/String;" } : Jvm.MethodName) prog_6_method_2_code (1 : Nat) (Option.some (Jvm.ClassFile.FieldType.object "java/lang/String"))).before args0 about1 = true := code_word (m := ⟨9, 1⟩) (meth := k9m1) (c := k9c1) (by decide +kernel) rfl rfl rfl (by decide +kernel)
set_option maxRecDepth 65536 in
theorem w_c10 : (Jvm.Cond.code ({ cls := "com/example/seatwright/seatwright/engine/Bucket", name := "size", desc := "()I" } : Jvm.MethodName) prog_6_method_3_code (1 : Nat) (Option.some Jvm.ClassFile.FieldType.int)).before args0 about1 = true := code_word (m := ⟨9, 2⟩) (meth := k9m2) (c := k9c2) (by decide +kernel) rfl rfl rfl (by decide +kernel)
set_option maxRecDepth 65536 in
theorem w_c11 : (Jvm.Cond.code ({ cls := "com/example/seatwright/seatwright/engine/Bucket", name := "inUse", desc := "()I" } : Jvm.MethodName) prog_6_method_4_code (1 : Nat) (Option.some Jvm.ClassFile.FieldType.int)).before args0 about1 = true := code_word (m := ⟨9, 3⟩) (meth := k9m3) (c := k9c3) (by decide +kernel) rfl rfl rfl (by decide +kernel)
set_option maxRecDepth 65536 in
theorem w_c12 : (Jvm.Cond.code ({ cls := "com/example/seatwright/seatwright/engine/Bucket", name := "above", desc := "()Lcom/example/seatwright/seatwright/engine/Bucket;" } : Jvm.MethodName) prog_6_method_9_code (1 : Nat) (Option.some (Jvm.ClassFile.FieldType.object "com/example/seatwright/seatwright/engine/Bucket"))).before args0 about1 = true := code_word (m := ⟨9, 5⟩) (meth := k9m5) (c := k9c5) (by decide +kernel) rfl rfl rfl (by decide +kernel)
set_option maxRecDepth 65536 in
theorem w_c13 : (Jvm.Cond.code ({ cls := "com/example/seatwright/seatwright/engine/Bucket", name := "take", desc := "()V" } : Jvm.MethodName) prog_6_method_7_code (1 : Nat) (Option.none : Option Jvm.ClassFile.FieldType)).before args0 about1 = true := code_word (m := ⟨9, 4⟩) (meth := k9m4) (c := k9c4) (by decide +kernel) rfl rfl rfl (by decide +kernel)
set_option maxRecDepth 65536 in
theorem w_c14 : (Jvm.Cond.code ({ cls := "com/example/seatwright/seatwright/engine/Bucket", name := "placeUnder", desc := "(Lcom/example/seatwright/seatwright/engine/Bucket;)V" } : Jvm.MethodName) prog_6_method_10_code (2 : Nat) (Option.none : Option Jvm.ClassFile.FieldType)).before args0 about1 = true := code_word (m := ⟨9, 6⟩) (meth := k9m6) (c := k9c6) (by decide +kernel) rfl rfl rfl (by decide +kernel)
def codes1 : List Jvm.Cond := [Jvm.Cond.code x code maxLocals ret, Jvm.Cond.code ({ cls := "java/lang/String", name := "<init>", desc := "([C)V" } : Jvm.MethodName) jdk_42_method_3_code (2 : Nat) (Option.none : Option Jvm.ClassFile.FieldType), Jvm.Cond.code ({ cls := "java/lang/String", name := "<init>", desc := "([CIILjava/lang/Void;)V" } : Jvm.MethodName) jdk_42_method_149_code (6 : Nat) (Option.none : Option Jvm.ClassFile.FieldType), Jvm.Cond.code ({ cls := "java/lang/Object", name := "<init>", desc := "()V" } : Jvm.MethodName) object_method_1_code (1 : Nat) (Option.none : Option Jvm.ClassFile.FieldType), Jvm.Cond.code ({ cls := "java/lang/StringUTF16", name := "compress", desc := "([CII)[B" } : Jvm.MethodName) jdk_52_method_16_code (6 : Nat) (Option.some (Jvm.ClassFile.FieldType.array Jvm.ClassFile.FieldType.byte)), Jvm.Cond.code ({ cls := "java/lang/StringUTF16", name := "compress", desc := "([CI[BII)I" } : Jvm.MethodName) jdk_52_method_21_code (7 : Nat) (Option.some Jvm.ClassFile.FieldType.int), Jvm.Cond.code ({ cls := "java/lang/StringUTF16", name := "coderFromArrayLen", desc := "([BI)B" } : Jvm.MethodName) jdk_52_method_15_code (2 : Nat) (Option.some Jvm.ClassFile.FieldType.byte), Jvm.Cond.code ({ cls := "com/example/seatwright/seatwright/engine/Bucket", name := "<init>", desc := "(Ljava/lang/String;II)V" } : Jvm.MethodName) prog_6_method_1_code (4 : Nat) (Option.none : Option Jvm.ClassFile.FieldType), Jvm.Cond.code ({ cls := "com/example/seatwright/seatwright/engine/Bucket", name := "copy", desc := "()Lcom/example/seatwright/seatwright/engine/Bucket;" } : Jvm.MethodName) prog_6_method_11_code (1 : Nat) (Option.some (Jvm.ClassFile.FieldType.object "com/example/seatwright/seatwright/engine/Bucket")), Jvm.Cond.code ({ cls := "com/example/seatwright/seatwright/engine/Bucket", name := "unit", desc := "()Ljava/lang/String;" } : Jvm.MethodName) prog_6_method_2_code (1 : Nat) (Option.some (Jvm.ClassFile.FieldType.object "java/lang/String")), Jvm.Cond.code ({ cls := "com/example/seatwright/seatwright/engine/Bucket", name := "size", desc := "()I" } : Jvm.MethodName) prog_6_method_3_code (1 : Nat) (Option.some Jvm.ClassFile.FieldType.int), Jvm.Cond.code ({ cls := "com/example/seatwright/seatwright/engine/Bucket", name := "inUse", desc := "()I" } : Jvm.MethodName) prog_6_method_4_code (1 : Nat) (Option.some Jvm.ClassFile.FieldType.int), Jvm.Cond.code ({ cls := "com/example/seatwright/seatwright/engine/Bucket", name := "above", desc := "()Lcom/example/seatwright/seatwright/engine/Bucket;" } : Jvm.MethodName) prog_6_method_9_code (1 : Nat) (Option.some (Jvm.ClassFile.FieldType.object "com/example/seatwright/seatwright/engine/Bucket")), Jvm.Cond.code ({ cls := "com/example/seatwright/seatwright/engine/Bucket", name := "take", desc := "()V" } : Jvm.MethodName) prog_6_method_7_code (1 : Nat) (Option.none : Option Jvm.ClassFile.FieldType), Jvm.Cond.code ({ cls := "com/example/seatwright/seatwright/engine/Bucket", name := "placeUnder", desc := "(Lcom/example/seatwright/seatwright/engine/Bucket;)V" } : Jvm.MethodName) prog_6_method_10_code (2 : Nat) (Option.none : Option Jvm.ClassFile.FieldType)]
set_option maxRecDepth 65536 in
theorem codes_eq : words1.filter isCode = codes1 := rfl
theorem w_codes : ∀ c ∈ words1.filter isCode, c.before args0 about1 = true := by
  rw [codes_eq]
  intro c hc
  simp only [codes1, List.mem_cons, List.not_mem_nil, or_false] at hc
  rcases hc with rfl | rfl | rfl | rfl | rfl | rfl | rfl | rfl | rfl | rfl | rfl | rfl | rfl | rfl | rfl
  · exact w_c0
  · exact w_c1
  · exact w_c2
  · exact w_c3
  · exact w_c4
  · exact w_c5
  · exact w_c6
  · exact w_c7
  · exact w_c8
  · exact w_c9
  · exact w_c10
  · exact w_c11
  · exact w_c12
  · exact w_c13
  · exact w_c14
set_option maxRecDepth 65536 in
theorem w_t1 : (words1.take 24).all (fun c => isCode c || c.before args0 about1) = true := by decide +kernel
set_option maxRecDepth 65536 in
theorem w_t2 : ((words1.drop 24).take 24).all (fun c => isCode c || c.before args0 about1) = true := by decide +kernel
set_option maxRecDepth 65536 in
theorem w_t3 : (((words1.drop 24).drop 24).take 24).all (fun c => isCode c || c.before args0 about1) = true := by decide +kernel
set_option maxRecDepth 65536 in
theorem w_t4 : (((words1.drop 24).drop 24).drop 24).all (fun c => isCode c || c.before args0 about1) = true := by decide +kernel
theorem w_tables : (allAtoms (Jvm.Cond.code x code maxLocals ret :: tables_1)).before args0 about1 = true := by
  rw [allAtoms_all]
  show words1.all (fun c => c.before args0 about1) = true
  refine all_split ?_ w_codes
  rw [← List.take_append_drop 24 words1, List.all_append, w_t1, ← List.take_append_drop 24 (words1.drop 24), List.all_append, w_t2, ← List.take_append_drop 24 ((words1.drop 24).drop 24), List.all_append, w_t3, w_t4]
  rfl
set_option maxRecDepth 65536 in
theorem w_rest : rest_1_c.before args0 about1 = true := by decide +kernel
set_option maxRecDepth 65536 in
theorem w_case : (Jvm.Cond.and given_1 narrow_1).before args0 about1 = true := by decide +kernel
set_option maxRecDepth 65536 in
theorem w_consts : constsHeld consts_1 about1 := Jvm.Lit.constsHeldB_iff.mp (by decide +kernel)
theorem w_applies : (headSpec (Jvm.Cond.code x code maxLocals ret :: tables_1) room_1).applies x e0.platform about1 = true :=
  (Spec.applies_iff w_frames).mpr ⟨w_running, w_runnable, w_alone, w_named, w_hears, w_ripe, w_room, w_tables⟩
theorem atStart : AtStart classFile x code maxLocals ret World_1 tables_1 room_1 Calls_1 rest_1 Pre_1 launch0 p0 e0 about1 theMethod args0 below0 :=
  ⟨lists_1, trivial, launch0.admits_env _ _ _, launch0.least_env, fairChoices_fair.cas, fairChoices_fair.clock, w_frames, w_args, w_heap, w_applies, ⟨w_consts, trivial⟩, w_rest, w_case⟩
end start1
theorem witness_1 : WitnessClaimed_1 := ⟨start1.p0, start1.e0, start1.about1, start1.theMethod, start1.args0, start1.below0, start1.atStart⟩
end Jvm.Pilot.@@N@@
