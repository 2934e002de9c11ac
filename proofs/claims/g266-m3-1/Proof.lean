import JvmDerived
import JvmDerived.Pilot.@@N@@Statement
import JvmDerived.Pilot.@@N@@Code
set_option linter.unusedVariables false
set_option linter.unusedSimpArgs false
namespace Jvm.Pilot.@@N@@
open Jvm Jvm.ClassFile Sem Op Lib Jvm.Free Jvm.Stand Jvm.LawKit Jvm.RoadKit Bundle Jvm.Pilot.@@N@@.Jvm.D
/-! own kit: a walk that goes forward: Go says what is still owed from the state S -/
section OwnGo
variable {p : Program} {l : Launch} {e : Env} {R : Room} {s : State} {m : MethodId} {args : Array Value} {below : List Frame} {meth : Method} {c : Code} {T : State} {locs : List Loc} {cells slots : Nat} {Z : State} {a0 : Array Value} {h : Heap} {G : Outcome → State → Prop} {S S' : State}
def Go (p : Program) (e : Env) (below : List Frame) (G : Outcome → State → Prop) (S : State) : Prop :=
  ∃ s₂ o, Steps p.tables e below S s₂ ∧ s₂.status = .running ∧ Ended s₂ below o ∧ G o s₂
theorem Go.st (h : ∀ t, Steps p.tables e below S' t → Steps p.tables e below S t) (k : Go p e below G S') : Go p e below G S := by
  obtain ⟨s₂, o, h1, h2⟩ := k
  exact ⟨s₂, o, h _ h1, h2⟩
theorem Go.tr (h : Steps p.tables e below S S') (k : Go p e below G S') : Go p e below G S := by
  obtain ⟨s₂, o, h1, h2⟩ := k
  exact ⟨s₂, o, h.trans h1, h2⟩
theorem Go.cast {g g' : JFrame} (q : g = g') (k : Go p e below G (T.setTop g')) : Go p e below G (T.setTop g) := q ▸ k
/-- what a body leaves: Q of the value, the heap and the places written -/
def Left (s : State) (K N : Nat) (Q : Option Value → Heap → List Loc → Prop) : Outcome → State → Prop :=
  fun o t => ∃ v L, o = .returned v ∧ Q v t.heap L ∧ FrameEnd s o t L K N
/-- a body's contract -/
def Pays (l : Launch) (y : MethodName) (bytes : ByteArray) (maxL : Nat) (ret : Option FieldType) (rm : Room) (Z : State) (as' : Array Value) (h0 : Heap) (Q : Option Value → Heap → List Loc → Prop) : Prop :=
  ∀ ws, MetFree l y (head1 (Cond.code y bytes maxL ret :: ws) rm) (fun a U => a = as' ∧ Z.Warmed39 U.vm ∧ U.heap = h0) (fun _ _ _ _ _ => True) (fun _ U o U' => ∃ v L, o = .returned v ∧ Q v U'.heap L ∧ FrameEnd U o U' L rm.cells rm.slots)
theorem Pays.of {y : MethodName} {bytes : ByteArray} {maxL : Nat} {ret : Option FieldType} {rm : Room} {as' : Array Value} {h0 : Heap} {Q : Option Value → Heap → List Loc → Prop} (hx : plainFor y = true)
    (body : ∀ (p : Program) (e : Env) (s : State) (m : MethodId) (below : List Frame) (meth : Method) (c : Code) (T : State), p.tables.exec = Jvm.exec → c.code = bytes → c.maxLocals = maxL → meth.sig.returnType = ret → meth.locks = false → Z.Warmed39 s.vm → s.vm.findClass y.cls = some m.cls → meth.name = y.name →
      T.heap = h0 → Stand p l e rm s m as' below meth c T [] 0 0 → Go p e below (Left s rm.cells rm.slots Q) (T.setTop (entryFrame m as' maxL))) : Pays l y bytes maxL ret rm Z as' h0 Q := by
  intro ws
  refine MetFree.of_bodySF hx hisR ?_
  intro p e s m args below meth c s₁ Bd hml0 hP hK
  obtain ⟨rfl, hZ, hh⟩ := hP
  exact body p e s m below meth c s₁ Bd.exec Bd.bytes hml0 Bd.returns Bd.notSynchronized hZ (findClass_of_methodNamed Bd.named) (name_of_methodNamed Bd.named Bd.method).1 (by rw [← hh, Bd.state]; rfl) (Stand.of_body Bd)
theorem Go.out (X : Stand p l e R s m args below meth c T locs cells slots) {v : Option Value} {K N : Nat} {Q : Option Value → Heap → List Loc → Prop} (hlocks : meth.locks = false) (hv : meth.sig.returnType = none → v = none) (hK : cells ≤ K) (hN : slots ≤ N) (hQ : Q v T.heap locs)
    (st : ∀ fs, (∀ (f : JFrame) (acts : List Action), f.method = m → f.locked = none → f.entered = [] → (doReturn e (T.setTop f) acts v).1 = T.setFrames fs) → Steps p.tables e below S (T.setFrames fs)) : Go p e below (Left s K N Q) S := by
  obtain ⟨fs, hr, hrun, hended, hW, hsame⟩ := X.leave hv hlocks
  exact ⟨_, _, st fs hr, hrun, hended, v, locs, rfl, hQ, ⟨_, rfl⟩, hW, hsame.mono hK hN⟩
theorem ret_b (X : Stand p l e R s m args below meth c T locs cells slots) (hx : p.tables.exec = Jvm.exec) (hlocks : meth.locks = false) (hret : meth.sig.returnType = some .boolean) {pc : Nat} {Ls : Array Slot} {z : Int32} {rest : List Value} {K N : Nat} {Q : Option Value → Heap → List Loc → Prop} (hd : decode c.code pc = .ok (.ireturn, 1)) (hK : cells ≤ K) (hN : slots ≤ N)
    (hQ : Q (some (.int (z &&& 1))) T.heap locs) : Go p e below (Left s K N Q) (T.setTop (mkF m pc Ls (.int z :: rest))) :=
  Go.out X (v := some (.int (z &&& 1))) hlocks (fun h => by rw [hret] at h; cases h) hK hN hQ fun fs hr => retN X hx (t := .boolean) hret (by simp) hd hr
theorem ret_c (X : Stand p l e R s m args below meth c T locs cells slots) (hx : p.tables.exec = Jvm.exec) (hlocks : meth.locks = false) (hret : meth.sig.returnType = some .char) {pc : Nat} {Ls : Array Slot} {z : Int32} {rest : List Value} {K N : Nat} {Q : Option Value → Heap → List Loc → Prop} (hd : decode c.code pc = .ok (.ireturn, 1)) (hK : cells ≤ K) (hN : slots ≤ N)
    (hQ : Q (some (.int (nar .char z))) T.heap locs) : Go p e below (Left s K N Q) (T.setTop (mkF m pc Ls (.int z :: rest))) :=
  Go.out X (v := some (.int (nar .char z))) hlocks (fun h => by rw [hret] at h; cases h) hK hN hQ fun fs hr => retN X hx (t := .char) hret (by simp) hd hr
theorem ret_y (X : Stand p l e R s m args below meth c T locs cells slots) (hx : p.tables.exec = Jvm.exec) (hlocks : meth.locks = false) (hret : meth.sig.returnType = some .byte) {pc : Nat} {Ls : Array Slot} {z : Int32} {rest : List Value} {K N : Nat} {Q : Option Value → Heap → List Loc → Prop} (hd : decode c.code pc = .ok (.ireturn, 1)) (hK : cells ≤ K) (hN : slots ≤ N)
    (hQ : Q (some (.int (nar .byte z))) T.heap locs) : Go p e below (Left s K N Q) (T.setTop (mkF m pc Ls (.int z :: rest))) :=
  Go.out X (v := some (.int (nar .byte z))) hlocks (fun h => by rw [hret] at h; cases h) hK hN hQ fun fs hr => retN X hx (t := .byte) hret (by simp) hd hr
theorem ret_i (X : Stand p l e R s m args below meth c T locs cells slots) (hx : p.tables.exec = Jvm.exec) (hlocks : meth.locks = false) (hret : meth.sig.returnType = some .int) {pc : Nat} {Ls : Array Slot} {z : Int32} {rest : List Value} {K N : Nat} {Q : Option Value → Heap → List Loc → Prop} (hd : decode c.code pc = .ok (.ireturn, 1)) (hK : cells ≤ K) (hN : slots ≤ N)
    (hQ : Q (some (.int z)) T.heap locs) : Go p e below (Left s K N Q) (T.setTop (mkF m pc Ls (.int z :: rest))) :=
  Go.out X (v := some (.int z)) hlocks (fun h => by rw [hret] at h; cases h) hK hN hQ fun fs hr => retOut X hx hret rfl (Or.inl ⟨rfl, Or.inl rfl, z, rfl⟩) hd hr
theorem ret_l (X : Stand p l e R s m args below meth c T locs cells slots) (hx : p.tables.exec = Jvm.exec) (hlocks : meth.locks = false) (hret : meth.sig.returnType = some .long) {pc : Nat} {Ls : Array Slot} {z : Int64} {rest : List Value} {K N : Nat} {Q : Option Value → Heap → List Loc → Prop} (hd : decode c.code pc = .ok (.lreturn, 1)) (hK : cells ≤ K) (hN : slots ≤ N)
    (hQ : Q (some (.long z)) T.heap locs) : Go p e below (Left s K N Q) (T.setTop (mkF m pc Ls (.long z :: rest))) :=
  Go.out X (v := some (.long z)) hlocks (fun h => by rw [hret] at h; cases h) hK hN hQ fun fs hr => retOut X hx hret rfl (Or.inr (Or.inl ⟨rfl, rfl, z, rfl⟩)) hd hr
theorem ret_d (X : Stand p l e R s m args below meth c T locs cells slots) (hx : p.tables.exec = Jvm.exec) (hlocks : meth.locks = false) (hret : meth.sig.returnType = some .double) {pc : Nat} {Ls : Array Slot} {z : UInt64} {rest : List Value} {K N : Nat} {Q : Option Value → Heap → List Loc → Prop} (hd : decode c.code pc = .ok (.dreturn, 1)) (hK : cells ≤ K) (hN : slots ≤ N)
    (hQ : Q (some (.double z)) T.heap locs) : Go p e below (Left s K N Q) (T.setTop (mkF m pc Ls (.double z :: rest))) :=
  Go.out X (v := some (.double z)) hlocks (fun h => by rw [hret] at h; cases h) hK hN hQ fun fs hr => retOut X hx hret rfl (Or.inr (Or.inr (Or.inl ⟨rfl, rfl, z, rfl⟩))) hd hr
theorem ret_a (X : Stand p l e R s m args below meth c T locs cells slots) (hx : p.tables.exec = Jvm.exec) (hlocks : meth.locks = false) {t : FieldType} (hret : meth.sig.returnType = some t) (ht : t.isReference = true) {pc : Nat} {Ls : Array Slot} {v : Value} (hv : v.isRef = true) {rest : List Value} {K N : Nat} {Q : Option Value → Heap → List Loc → Prop} (hd : decode c.code pc = .ok (.areturn, 1)) (hK : cells ≤ K) (hN : slots ≤ N)
    (hQ : Q (some v) T.heap locs) : Go p e below (Left s K N Q) (T.setTop (mkF m pc Ls (v :: rest))) :=
  Go.out X (v := some v) hlocks (fun h => by rw [hret] at h; cases h) hK hN hQ fun fs hr => retOut X hx hret (by rcases ref_cases hv with rfl | ⟨a, rfl⟩ <;> cases t <;> first | rfl | cases ht) (Or.inr (Or.inr (Or.inr (Or.inr ⟨rfl, ht, hv⟩)))) hd hr
theorem ret_v (X : Stand p l e R s m args below meth c T locs cells slots) (hx : p.tables.exec = Jvm.exec) (hlocks : meth.locks = false) (hret : meth.sig.returnType = none) {pc : Nat} {Ls : Array Slot} {K N : Nat} {Q : Option Value → Heap → List Loc → Prop} (hd : decode c.code pc = .ok (.return_, 1)) (hK : cells ≤ K) (hN : slots ≤ N)
    (hQ : Q none T.heap locs) : Go p e below (Left s K N Q) (T.setTop (mkF m pc Ls [])) :=
  Go.out X (v := none) hlocks (fun _ => rfl) hK hN hQ fun fs hr => X.returnOut hx hret hd hr
/-- a call of an instance method, by its contract -/
theorem Go.virt (X : Stand p l e R s m args below meth c T locs cells slots) (hx : p.tables.exec = Jvm.exec) (hZ : Z.Warmed39 s.vm) {own C : String} {index : Nat} {y z : MethodName} (hown : s.vm.findClass own = some m.cls) (wl : (Cond.methodLink own index y).before a0 Z = true) (wd : (Cond.declares y).before a0 Z = true) (nf : NotFace s y)
    (wsel : (Cond.selects C y z).before a0 Z = true) (wi : (Cond.instanceMethod z).before a0 Z = true) {bytes : ByteArray} {maxL : Nat} {ret : Option FieldType} (wc : (Cond.code z bytes maxL ret).before a0 Z = true) (wz : (Cond.initialized z.cls).before a0 Z = true) (hy : y.cls ≠ "java/lang/invoke/MethodHandle" ∧ y.cls ≠ "java/lang/invoke/VarHandle")
    {rm : Room} {Q : Option Value → Heap → List Loc → Prop} {b : Addr} {argsL rest : List Value} (P : Pays l z bytes maxL ret rm Z (.ref b :: argsL).toArray h Q) (eT : T.heap = h) (E : Exa Z h b C) {pc : Nat} {Ls : Array Slot} {st : List Value} (hst : st = argsL.reverse ++ .ref b :: rest) (hsz : Ls.size = c.maxLocals) {ps : List FieldType} {r : Option FieldType} (hpd : parseMethodDescriptor y.desc = some ⟨ps, r⟩) (hlen : argsL.length = ps.length)
    (hd : decode c.code pc = .ok (.invokevirtual index, 3)) (W : Nat) (hW : (rest.map fun v => v.category).sum ≤ W) (hf : rm.frames + 1 ≤ R.frames) (hl : W + (maxL + 11) + rm.locals ≤ R.locals) (hc : cells + rm.cells ≤ R.cells) (hs : slots + rm.slots ≤ R.slots)
    (k : ∀ (v : Option Value) (T' : State) (L : List Loc), Stand p l e R s m args below meth c T' (locs ++ L) (cells + rm.cells) (slots + rm.slots) → Q v T'.heap L → Go p e below G (T'.setTop (mkF m (pc + 3) Ls (v.toList ++ rest)))) : Go p e below G (T.setTop (mkF m pc Ls st)) := by
  obtain ⟨cB, kB, hcB, -, hrecv⟩ := isOf hZ eT E
  obtain ⟨v, _, ⟨T', L', k', n'⟩, -, X', ⟨L, hQ, h1, h2, h3⟩, stp⟩ := X.virtualBack hx hown (mvT hZ wl) (mvT hZ wd) nf (mvT hZ wsel) (mvT hZ wi) hy (backOf (W := W) (P []) hZ wc wz hf hl) hcB hrecv (g := mkF m pc Ls st) rfl hsz (Steps.refl _) (argsL := argsL) (rest := rest) (lenOf hpd hlen) hst (by show 2 * 0 + _ ≤ _; omega) hd (fun _ _ => ⟨rfl, eT, hc, hs⟩)
  dsimp only at X' hQ h1 h2 h3 stp
  subst h1 h2 h3
  exact Go.tr stp (k v T' L X' hQ)
/-- a call of an inherited method through a subclass's name, by its contract -/
theorem Go.up (X : Stand p l e R s m args below meth c T locs cells slots) (hx : p.tables.exec = Jvm.exec) (hZ : Z.Warmed39 s.vm) {own C owner : String} {index : Nat} {xm y : MethodName} (hown : s.vm.findClass own = some m.cls) (wl : (Cond.methodLink own index xm).before a0 Z = true) (wsm : (Cond.sameMethod xm.cls owner xm.name xm.desc).before a0 Z = true)
    (wd : (Cond.declares ⟨owner, xm.name, xm.desc⟩).before a0 Z = true) (wsel : (Cond.selects C xm y).before a0 Z = true) (wi : (Cond.instanceMethod y).before a0 Z = true) {bytes : ByteArray} {maxL : Nat} {ret : Option FieldType} (wc : (Cond.code y bytes maxL ret).before a0 Z = true) (wz : (Cond.initialized y.cls).before a0 Z = true) (hy : owner ≠ "java/lang/invoke/MethodHandle" ∧ owner ≠ "java/lang/invoke/VarHandle")
    {rm : Room} {Q : Option Value → Heap → List Loc → Prop} {b : Addr} {argsL rest : List Value} (P : Pays l y bytes maxL ret rm Z (.ref b :: argsL).toArray h Q) (eT : T.heap = h) (E : Exa Z h b C) {pc : Nat} {Ls : Array Slot} {st : List Value} (hst : st = argsL.reverse ++ .ref b :: rest) (hsz : Ls.size = c.maxLocals) {ps : List FieldType} {r : Option FieldType} (hpd : parseMethodDescriptor xm.desc = some ⟨ps, r⟩) (hlen : argsL.length = ps.length)
    (hd : decode c.code pc = .ok (.invokevirtual index, 3)) (W : Nat) (hW : (rest.map fun v => v.category).sum ≤ W) (hf : rm.frames + 1 ≤ R.frames) (hl : W + (maxL + 11) + rm.locals ≤ R.locals) (hc : cells + rm.cells ≤ R.cells) (hs : slots + rm.slots ≤ R.slots)
    (k : ∀ (v : Option Value) (T' : State) (L : List Loc), Stand p l e R s m args below meth c T' (locs ++ L) (cells + rm.cells) (slots + rm.slots) → Q v T'.heap L → Go p e below G (T'.setTop (mkF m (pc + 3) Ls (v.toList ++ rest)))) : Go p e below G (T.setTop (mkF m pc Ls st)) := by
  obtain ⟨cB, kB, hcB, -, hrecv⟩ := isOf hZ eT E
  obtain ⟨v, _, ⟨T', L', k', n'⟩, -, X', ⟨L, hQ, h1, h2, h3⟩, stp⟩ := X.virtualBackUp hx hown (mvT hZ wl) (mvT hZ wsm) (mvT hZ wd) hy (mvT hZ wsel) (mvT hZ wi) (backOf (W := W) (P []) hZ wc wz hf hl) hcB hrecv (g := mkF m pc Ls st) rfl hsz (Steps.refl _) (argsL := argsL) (rest := rest) (lenOf hpd hlen) hst (by show 2 * 0 + _ ≤ _; omega) hd (fun _ _ => ⟨rfl, eT, hc, hs⟩)
  dsimp only at X' hQ h1 h2 h3 stp
  subst h1 h2 h3
  exact Go.tr stp (k v T' L X' hQ)
/-- a call of a private instance method by invokevirtual, by its contract -/
theorem Go.priv (X : Stand p l e R s m args below meth c T locs cells slots) (hx : p.tables.exec = Jvm.exec) (hZ : Z.Warmed39 s.vm) {own C : String} {index : Nat} {y : MethodName} (hown : s.vm.findClass own = some m.cls) (wl : (Cond.methodLink own index y).before a0 Z = true) (wi : (Cond.instanceMethod y).before a0 Z = true)
    (wsel : (Cond.selects y.cls y y).before a0 Z = true) (wp : (Cond.privateMethod y).before a0 Z = true) {bytes : ByteArray} {maxL : Nat} {ret : Option FieldType} (wc : (Cond.code y bytes maxL ret).before a0 Z = true) (wz : (Cond.initialized y.cls).before a0 Z = true) (hy : y.cls ≠ "java/lang/invoke/MethodHandle" ∧ y.cls ≠ "java/lang/invoke/VarHandle")
    {rm : Room} {Q : Option Value → Heap → List Loc → Prop} {b : Addr} {argsL rest : List Value} (P : Pays l y bytes maxL ret rm Z (.ref b :: argsL).toArray h Q) (eT : T.heap = h) (E : Exa Z h b C) {pc : Nat} {Ls : Array Slot} {st : List Value} (hst : st = argsL.reverse ++ .ref b :: rest) (hsz : Ls.size = c.maxLocals) {ps : List FieldType} {r : Option FieldType} (hpd : parseMethodDescriptor y.desc = some ⟨ps, r⟩) (hlen : argsL.length = ps.length)
    (hd : decode c.code pc = .ok (.invokevirtual index, 3)) (W : Nat) (hW : (rest.map fun v => v.category).sum ≤ W) (hf : rm.frames + 1 ≤ R.frames) (hl : W + (maxL + 11) + rm.locals ≤ R.locals) (hc : cells + rm.cells ≤ R.cells) (hs : slots + rm.slots ≤ R.slots)
    (k : ∀ (v : Option Value) (T' : State) (L : List Loc), Stand p l e R s m args below meth c T' (locs ++ L) (cells + rm.cells) (slots + rm.slots) → Q v T'.heap L → Go p e below G (T'.setTop (mkF m (pc + 3) Ls (v.toList ++ rest)))) : Go p e below G (T.setTop (mkF m pc Ls st)) := by
  obtain ⟨cell, hcell, hobj⟩ := E.cell
  obtain ⟨v, _, ⟨T', L', k', n'⟩, -, X', ⟨L, hQ, h1, h2, h3⟩, stp⟩ := X.privateBack hx hown (mvT hZ wl) (mvT hZ wi) (mvT hZ wsel) (Cond.privateMethod_at (mvP (args := args) hZ wp)) (mvT hZ wc) hy (backOf (W := W) (P []) hZ wc wz hf hl) (g := mkF m pc Ls st) rfl hsz (Steps.refl _) (a := b) (by rw [eT]; exact hcell) hobj (argsL := argsL) (rest := rest) (lenOf hpd hlen) hst (by show 2 * 0 + _ ≤ _; omega) hd (fun _ _ => ⟨rfl, eT, hc, hs⟩)
  dsimp only at X' hQ h1 h2 h3 stp
  subst h1 h2 h3
  exact Go.tr stp (k v T' L X' hQ)
/-- a call of an interface's method, by the contract of the method that it goes to -/
theorem Go.face (X : Stand p l e R s m args below meth c T locs cells slots) (hx : p.tables.exec = Jvm.exec) (hZ : Z.Warmed39 s.vm) {own C : String} {index count : Nat} {xi y : MethodName} (hown : s.vm.findClass own = some m.cls) (wl : (Cond.methodLink own index xi).before a0 Z = true) (wd : (Cond.declares xi).before a0 Z = true)
    (wf : (Cond.interfaceMethod xi.cls xi.cls xi.name xi.desc).before args s = true) (wsel : (Cond.selects C xi y).before a0 Z = true) (wi : (Cond.instanceMethod y).before a0 Z = true) (wpub : (Cond.publicMethod y).before a0 Z = true) (wun : (Cond.unhidden C xi.name xi.desc).before a0 Z = true) (wca : (Cond.castable C xi.cls).before a0 Z = true)
    {bytes : ByteArray} {maxL : Nat} {ret : Option FieldType} (wc : (Cond.code y bytes maxL ret).before a0 Z = true) (wz : (Cond.initialized y.cls).before a0 Z = true) (hy : xi.cls ≠ "java/lang/invoke/MethodHandle" ∧ xi.cls ≠ "java/lang/invoke/VarHandle")
    {rm : Room} {Q : Option Value → Heap → List Loc → Prop} {b : Addr} {argsL rest : List Value} (P : Pays l y bytes maxL ret rm Z (.ref b :: argsL).toArray h Q) (eT : T.heap = h) (E : Exa Z h b C) {pc : Nat} {Ls : Array Slot} {st : List Value} (hst : st = argsL.reverse ++ .ref b :: rest) (hsz : Ls.size = c.maxLocals) {ps : List FieldType} {r : Option FieldType} (hpd : parseMethodDescriptor xi.desc = some ⟨ps, r⟩) (hlen : argsL.length = ps.length)
    (hd : decode c.code pc = .ok (.invokeinterface index count, 5)) (W : Nat) (hW : (rest.map fun v => v.category).sum ≤ W) (hf : rm.frames + 1 ≤ R.frames) (hl : W + (maxL + 11) + rm.locals ≤ R.locals) (hc : cells + rm.cells ≤ R.cells) (hs : slots + rm.slots ≤ R.slots)
    (k : ∀ (v : Option Value) (T' : State) (L : List Loc), Stand p l e R s m args below meth c T' (locs ++ L) (cells + rm.cells) (slots + rm.slots) → Q v T'.heap L → Go p e below G (T'.setTop (mkF m (pc + 5) Ls (v.toList ++ rest)))) : Go p e below G (T.setTop (mkF m pc Ls st)) := by
  obtain ⟨cB, kB, hcB, hkB, hrecv⟩ := isOf hZ eT E
  obtain ⟨v, _, ⟨T', L', k', n'⟩, -, X', ⟨L, hQ, h1, h2, h3⟩, stp⟩ := X.interfaceBack hx hown (mvT hZ wl) (mvT hZ wd) wf (mvT hZ wsel) (mvT hZ wi) (mvT hZ wpub) (mvT hZ wun) (mvT hZ wca) hy (backOf (W := W) (P []) hZ wc wz hf hl) hcB hkB hrecv (g := mkF m pc Ls st) rfl hsz (Steps.refl _) (argsL := argsL) (rest := rest) (lenOf hpd hlen) hst (by show 2 * 0 + _ ≤ _; omega) hd (fun _ _ => ⟨rfl, eT, hc, hs⟩)
  dsimp only at X' hQ h1 h2 h3 stp
  subst h1 h2 h3
  exact Go.tr stp (k v T' L X' hQ)
/-- a call of a constructor, by its contract -/
theorem Go.init (X : Stand p l e R s m args below meth c T locs cells slots) (hx : p.tables.exec = Jvm.exec) (hZ : Z.Warmed39 s.vm) {own : String} {index : Nat} {y : MethodName} (hy1 : y.name = "<init>") (hown : s.vm.findClass own = some m.cls) (wl : (Cond.methodLink own index y).before a0 Z = true)
    (wi : (Cond.instanceMethod y).before a0 Z = true) {bytes : ByteArray} {maxL : Nat} (wc : (Cond.code y bytes maxL none).before a0 Z = true) (wz : (Cond.initialized y.cls).before a0 Z = true) (hy : y.cls ≠ "java/lang/invoke/MethodHandle" ∧ y.cls ≠ "java/lang/invoke/VarHandle")
    {rm : Room} {Q : Option Value → Heap → List Loc → Prop} {b : Addr} {argsL rest : List Value} (P : Pays l y bytes maxL none rm Z (.ref b :: argsL).toArray h Q) (eT : T.heap = h) {pc : Nat} {Ls : Array Slot} {st : List Value} (hst : st = argsL.reverse ++ .ref b :: rest) (hsz : Ls.size = c.maxLocals) {ps : List FieldType} {r : Option FieldType} (hpd : parseMethodDescriptor y.desc = some ⟨ps, r⟩) (hlen : argsL.length = ps.length)
    (hd : decode c.code pc = .ok (.invokespecial index, 3)) (W : Nat) (hW : (rest.map fun v => v.category).sum ≤ W) (hf : rm.frames + 1 ≤ R.frames) (hl : W + (maxL + 11) + rm.locals ≤ R.locals) (hc : cells + rm.cells ≤ R.cells) (hs : slots + rm.slots ≤ R.slots)
    (k : ∀ (v : Option Value) (T' : State) (L : List Loc), Stand p l e R s m args below meth c T' (locs ++ L) (cells + rm.cells) (slots + rm.slots) → Q v T'.heap L → Go p e below G (T'.setTop (mkF m (pc + 3) Ls (v.toList ++ rest)))) : Go p e below G (T.setTop (mkF m pc Ls st)) := by
  obtain ⟨v, _, ⟨T', L', k', n'⟩, -, X', ⟨L, hQ, h1, h2, h3⟩, stp⟩ := X.specialBack hx hy1 hown (mvT hZ wl) (mvT hZ wi) (mvT hZ wc) hy (backOf (W := W) (P []) hZ wc wz hf hl) (g := mkF m pc Ls st) rfl hsz (Steps.refl _) (a := b) (argsL := argsL) (rest := rest) (lenOf hpd hlen) hst (by show 2 * 0 + _ ≤ _; omega) hd (fun _ _ => ⟨rfl, eT, hc, hs⟩)
  dsimp only at X' hQ h1 h2 h3 stp
  subst h1 h2 h3
  exact Go.tr stp (k v T' L X' hQ)
/-- a call of a static method, by its contract -/
theorem Go.stat (X : Stand p l e R s m args below meth c T locs cells slots) (hx : p.tables.exec = Jvm.exec) (hZ : Z.Warmed39 s.vm) {own : String} {index : Nat} {y : MethodName} (hown : s.vm.findClass own = some m.cls) (wl : (Cond.methodLink own index y).before a0 Z = true)
    (wst : (Cond.static y).before a0 Z = true) (wz : (Cond.initialized y.cls).before a0 Z = true) {bytes : ByteArray} {maxL : Nat} {ret : Option FieldType} (wc : (Cond.code y bytes maxL ret).before a0 Z = true) (hy : y.cls ≠ "java/lang/invoke/MethodHandle" ∧ y.cls ≠ "java/lang/invoke/VarHandle")
    {rm : Room} {Q : Option Value → Heap → List Loc → Prop} {argsL rest : List Value} (P : Pays l y bytes maxL ret rm Z argsL.toArray h Q) (eT : T.heap = h) {pc : Nat} {Ls : Array Slot} {st : List Value} (hst : st = argsL.reverse ++ rest) (hsz : Ls.size = c.maxLocals) {ps : List FieldType} {r : Option FieldType} (hpd : parseMethodDescriptor y.desc = some ⟨ps, r⟩) (hlen : argsL.length = ps.length)
    (hd : decode c.code pc = .ok (.invokestatic index, 3)) (W : Nat) (hW : (rest.map fun v => v.category).sum ≤ W) (hf : rm.frames + 1 ≤ R.frames) (hl : W + (maxL + 11) + rm.locals ≤ R.locals) (hc : cells + rm.cells ≤ R.cells) (hs : slots + rm.slots ≤ R.slots)
    (k : ∀ (v : Option Value) (T' : State) (L : List Loc), Stand p l e R s m args below meth c T' (locs ++ L) (cells + rm.cells) (slots + rm.slots) → Q v T'.heap L → Go p e below G (T'.setTop (mkF m (pc + 3) Ls (v.toList ++ rest)))) : Go p e below G (T.setTop (mkF m pc Ls st)) := by
  obtain ⟨mk, hnamed⟩ := Cond.named_of_code (mvT (args := args) hZ wc)
  obtain ⟨methM, cM, hmeth, hcode, -, -, -, -, -, hsig⟩ := Cond.code_spec hnamed (mvT (args := args) hZ wc)
  obtain ⟨v, _, ⟨T', L', k', n'⟩, -, X', ⟨L, hQ, h1, h2, h3⟩, stp⟩ := X.staticBack hx hown (mvT hZ wl) (mvT hZ wst) (mvT hZ wz) hnamed hmeth hsig hy (backOf (W := W) (P []) hZ wc wz hf hl) (g := mkF m pc Ls st) rfl hsz (Steps.refl _) (argsL := argsL) (rest := rest) (lenOf hpd hlen) hst (by show 2 * 0 + _ ≤ _; omega) hd (fun _ _ => ⟨rfl, eT, hc, hs⟩)
  dsimp only at X' hQ h1 h2 h3 stp
  subst h1 h2 h3
  exact Go.tr stp (k v T' L X' hQ)
theorem own_alen (X : Stand p l e R s m args below meth c T locs cells slots) (hx : p.tables.exec = Jvm.exec) (hZ : Z.Warmed39 s.vm) (eT : T.heap = h) {a : Addr} {cl : Cell} {ty : FieldType} (A : Arr Z h a cl ty) {z : Int32} (q : cl.slots.size.toInt32 = z) {pc : Nat} {Ls : Array Slot} {st rest : List Value} (hst : st = .ref a :: rest)
    (hd : decode c.code pc = .ok (.arraylength, 1)) (target : State) (k : Steps p.tables e below (T.setTop (mkF m (pc + 1) Ls (.int z :: rest))) target) : Steps p.tables e below (T.setTop (mkF m pc Ls st)) target :=
  X.arraylength hx (by rw [eT]; exact A.1) (State.isArrayOf_alike hZ.alike A.2.1) (g := mkF m pc Ls st) rfl hst hd target (by rw [q]; exact k)
def ObjAt (h : Heap) (x : Addr) : Prop := ∃ cell : Cell, h[x]? = some cell ∧ cell.vm.isStatics = false
theorem own_obj_exa {x : Addr} {C : String} (F : Exa Z h x C) : ObjAt h x := by
  obtain ⟨c1, _, h1, _, _, h4, _⟩ := F
  exact ⟨c1, h1, h4⟩
theorem own_obj_arv {x : Addr} {k : ClassId} {ty : FieldType} {n : Int32} {vs : List Value} {d : Value} (F : Arv Z h x k ty n vs d) : ObjAt h x := by
  obtain ⟨c1, A, _⟩ := F
  exact ⟨c1, A.1, A.plain⟩
theorem own_sta_keep {h' : Heap} {C n d : String} {v : Value} {ws : List Addr} (F : Sta Z h C n d v) (K : Keep h h' ws) (hws : ∀ x ∈ ws, ObjAt h x) : Sta Z h' C n d v := by
  obtain ⟨cf, i, k, f, st, cell, h1, h2, h3, h4, h5, h6, h7⟩ := F
  refine ⟨cf, i, k, f, st, cell, h1, h2, h3, h4, K.2.1 _ _ h5 fun q => ?_, h6, h7⟩
  obtain ⟨c1, g1, g2⟩ := hws _ q
  cases h5.symm.trans g1
  rw [h6] at g2
  cases g2
theorem own_entry {n : Nat} {Ls : Array Slot} (h : Jvm.Sym.laidSlots args.toList ++ List.replicate (n - (Jvm.Sym.laidSlots args.toList).length) .unset = Ls.toList) : entryFrame m args n = mkF m 0 Ls [] := by
  have q : argsToLocals args n = Ls := Array.toList_inj.mp (by rw [Jvm.Sym.argsToLocals_toList]; exact h)
  unfold entryFrame
  rw [q]
theorem own_eqI {first : State} {o : Option Outcome} {idx : List Nat} {a b : Term} {x y : Int32} (ha : a.eval args first o idx s = some (.int x)) (hb : b.eval args first o idx s = some (.int y)) : (Jvm.Cond.eq a b).value args first o s idx = some (decide (x = y)) := by simp [Cond.value, ha, hb]
theorem own_nar_ref {t : FieldType} {v : Value} (hv : v.isRef = true) : narrow t v = v := by
  rcases ref_cases hv with rfl | ⟨a, rfl⟩ <;> cases t <;> rfl
theorem own_fit_ref {t : FieldType} {v : Value} (hv : v.isRef = true) (ht : t.isReference = true := by rfl) : fits t v = true := by
  rcases ref_cases hv with rfl | ⟨a, rfl⟩ <;> cases t <;> first | rfl | cases ht
end OwnGo
theorem d1_0 : decode method_2_code 0 = .ok (.iload_n 0, 1) := by decide +kernel
theorem d1_1 : decode method_2_code 1 = .ok (.ifCond .ne 7, 3) := by decide +kernel
theorem d1_4 : decode method_2_code 4 = .ok (.getstatic 7, 3) := by decide +kernel
theorem d1_7 : decode method_2_code 7 = .ok (.areturn, 1) := by decide +kernel
theorem d1_8 : decode method_2_code 8 = .ok (.iload_n 0, 1) := by decide +kernel
theorem d1_9 : decode method_2_code 9 = .ok (.iconst 1, 1) := by decide +kernel
theorem d1_10 : decode method_2_code 10 = .ok (.if_icmp .ne 7, 3) := by decide +kernel
theorem d1_13 : decode method_2_code 13 = .ok (.getstatic 13, 3) := by decide +kernel
theorem d1_16 : decode method_2_code 16 = .ok (.areturn, 1) := by decide +kernel
theorem d1_17 : decode method_2_code 17 = .ok (.iload_n 0, 1) := by decide +kernel
theorem d1_18 : decode method_2_code 18 = .ok (.iconst 2, 1) := by decide +kernel
theorem d1_19 : decode method_2_code 19 = .ok (.if_icmp .ne 7, 3) := by decide +kernel
theorem d1_22 : decode method_2_code 22 = .ok (.getstatic 16, 3) := by decide +kernel
theorem d1_25 : decode method_2_code 25 = .ok (.areturn, 1) := by decide +kernel
theorem d1_26 : decode method_2_code 26 = .ok (.getstatic 19, 3) := by decide +kernel
theorem d1_29 : decode method_2_code 29 = .ok (.areturn, 1) := by decide +kernel
theorem pn_com_example_seatwright_seatwright_engine_DecisionAssignmentPinLaw : plainName "com/example/seatwright/seatwright/engine/DecisionAssignmentPinLaw" = true := by first | (simp [plainName, overriddenIn]; done) | decide +kernel
theorem ef_rm1 (m : MethodId) (p : Int32) : entryFrame m #[(.int p)] 1 = mkF m 0 #[.val (.int p)] [] := by first | exact own_entry rfl | (simp [entryFrame, mkF, argsToLocals, Value.category]; done) | rfl
set_option maxRecDepth 65536 in
set_option maxHeartbeats 40000000 in
theorem rm1 (l : Launch) (Z : State) (a0 : Array Value) (hw : ∀ d ∈ tables_1, d.before a0 Z = true) (p : Int32) (aG aH aR aF r : Addr) (h0 : Heap) (n0 : Nat) (Z0 : n0 ≤ h0.size) (S_aG : Sta Z h0 "com/example/seatwright/seatwright/engine/Decision$Outcome" "GRANTED" "Lcom/example/seatwright/seatwright/engine/Decision$Outcome;" (.ref aG)) (S_aH : Sta Z h0 "com/example/seatwright/seatwright/engine/Decision$Outcome" "HELD" "Lcom/example/seatwright/seatwright/engine/Decision$Outcome;" (.ref aH)) (S_aR : Sta Z h0 "com/example/seatwright/seatwright/engine/Decision$Outcome" "RELEASED" "Lcom/example/seatwright/seatwright/engine/Decision$Outcome;" (.ref aR)) (S_aF : Sta Z h0 "com/example/seatwright/seatwright/engine/Decision$Outcome" "REFUSED" "Lcom/example/seatwright/seatwright/engine/Decision$Outcome;" (.ref aF)) (hr : (if p = 0 then aG else if p = 1 then aH else if p = 2 then aR else aF) = r) :
    Pays l (⟨"com/example/seatwright/seatwright/engine/DecisionAssignmentPinLaw", "pick", "(I)Lcom/example/seatwright/seatwright/engine/Decision$Outcome;"⟩ : MethodName) method_2_code 1 (some (.object "com/example/seatwright/seatwright/engine/Decision$Outcome")) ({ frames := 0, cells := 0, slots := 0, locals := 0 } : Room) Z #[(.int p)] h0 (fun v h L => v = some (.ref r) ∧ Fr n0 L ∧ h = h0) := by
  refine Pays.of (plainFor_of_name pn_com_example_seatwright_seatwright_engine_DecisionAssignmentPinLaw) ?_
  intro pP eE sS m below methM cC T hx hby hml hret hlk hZ hown hnm eT X
  replace hown : sS.vm.findClass "com/example/seatwright/seatwright/engine/DecisionAssignmentPinLaw" = some m.cls := hown
  have N0 := Fr.nil n0
  refine Go.cast (ef_rm1 m p) ?_
  refine Go.st (S' := T.setTop (mkF m 1 #[.val (.int p)] [(.int p)])) (fun t kt => XS.iloadN X.here hx rfl (hb hby d1_0) rfl kt) ?_
  by_cases hc1_1 : p = 0
  · refine Go.st (S' := T.setTop (mkF m 4 #[.val (.int p)] [])) (fun t kt => XS.ifNo X.here hx rfl (hb hby d1_1) rfl (XT.i0_ne_f hc1_1) kt) ?_
    obtain ⟨T2, X2, e2, st2⟩ := getS X hx hZ (host := "") hown (hw _ (List.mem_of_getElem? (i := 4) rfl)) Via.refl eT S_aG (g := (mkF m 4 #[.val (.int p)] [])) rfl (hb hby d1_4)
    refine Go.st (S' := T2.setTop (mkF m 7 #[.val (.int p)] [(.ref aG)])) (fun t kt => st2 t kt) ?_
    exact ret_a X2 hx hlk hret rfl rfl (hb hby d1_7) (by decide) (by decide) (⟨by rw [← hr]; simp [hc1_1], N0, e2⟩)
  · refine Go.st (S' := T.setTop (mkF m 8 #[.val (.int p)] [])) (fun t kt => XS.ifYes X.here hx rfl (pc0 := 1) (pc' := 8) rfl (hb hby d1_1) rfl (XT.i0_ne_t hc1_1) (by decide) (by decide) kt) ?_
    refine Go.st (S' := T.setTop (mkF m 9 #[.val (.int p)] [(.int p)])) (fun t kt => XS.iloadN X.here hx rfl (hb hby d1_8) rfl kt) ?_
    refine Go.st (S' := T.setTop (mkF m 10 #[.val (.int p)] [(.int (1 : Int32)), (.int p)])) (fun t kt => XS.iconst X.here hx rfl (hb hby d1_9) kt) ?_
    by_cases hc10_3 : p = (1 : Int32)
    · refine Go.st (S' := T.setTop (mkF m 13 #[.val (.int p)] [])) (fun t kt => XS.icmpNo X.here hx rfl (hb hby d1_10) rfl (XT.ii_ne_f hc10_3) kt) ?_
      obtain ⟨T4, X4, e4, st4⟩ := getS X hx hZ (host := "") hown (hw _ (List.mem_of_getElem? (i := 72) rfl)) Via.refl eT S_aH (g := (mkF m 13 #[.val (.int p)] [])) rfl (hb hby d1_13)
      refine Go.st (S' := T4.setTop (mkF m 16 #[.val (.int p)] [(.ref aH)])) (fun t kt => st4 t kt) ?_
      exact ret_a X4 hx hlk hret rfl rfl (hb hby d1_16) (by decide) (by decide) (⟨by rw [← hr]; simp [hc1_1, hc10_3], N0, e4⟩)
    · refine Go.st (S' := T.setTop (mkF m 17 #[.val (.int p)] [])) (fun t kt => XS.icmpYes X.here hx rfl (pc0 := 10) (pc' := 17) rfl (hb hby d1_10) rfl (XT.ii_ne_t hc10_3) (by decide) (by decide) kt) ?_
      refine Go.st (S' := T.setTop (mkF m 18 #[.val (.int p)] [(.int p)])) (fun t kt => XS.iloadN X.here hx rfl (hb hby d1_17) rfl kt) ?_
      refine Go.st (S' := T.setTop (mkF m 19 #[.val (.int p)] [(.int (2 : Int32)), (.int p)])) (fun t kt => XS.iconst X.here hx rfl (hb hby d1_18) kt) ?_
      by_cases hc19_5 : p = (2 : Int32)
      · refine Go.st (S' := T.setTop (mkF m 22 #[.val (.int p)] [])) (fun t kt => XS.icmpNo X.here hx rfl (hb hby d1_19) rfl (XT.ii_ne_f hc19_5) kt) ?_
        obtain ⟨T6, X6, e6, st6⟩ := getS X hx hZ (host := "") hown (hw _ (List.mem_of_getElem? (i := 70) rfl)) Via.refl eT S_aR (g := (mkF m 22 #[.val (.int p)] [])) rfl (hb hby d1_22)
        refine Go.st (S' := T6.setTop (mkF m 25 #[.val (.int p)] [(.ref aR)])) (fun t kt => st6 t kt) ?_
        exact ret_a X6 hx hlk hret rfl rfl (hb hby d1_25) (by decide) (by decide) (⟨by rw [← hr]; simp [hc1_1, hc10_3, hc19_5], N0, e6⟩)
      · refine Go.st (S' := T.setTop (mkF m 26 #[.val (.int p)] [])) (fun t kt => XS.icmpYes X.here hx rfl (pc0 := 19) (pc' := 26) rfl (hb hby d1_19) rfl (XT.ii_ne_t hc19_5) (by decide) (by decide) kt) ?_
        obtain ⟨T7, X7, e7, st7⟩ := getS X hx hZ (host := "") hown (hw _ (List.mem_of_getElem? (i := 68) rfl)) Via.refl eT S_aF (g := (mkF m 26 #[.val (.int p)] [])) rfl (hb hby d1_26)
        refine Go.st (S' := T7.setTop (mkF m 29 #[.val (.int p)] [(.ref aF)])) (fun t kt => st7 t kt) ?_
        exact ret_a X7 hx hlk hret rfl rfl (hb hby d1_29) (by decide) (by decide) (⟨by rw [← hr]; simp [hc1_1, hc10_3, hc19_5], N0, e7⟩)
theorem d2_0 : decode prog_11_method_1_code 0 = .ok (.aload_n 0, 1) := by decide +kernel
theorem d2_1 : decode prog_11_method_1_code 1 = .ok (.invokespecial 1, 3) := by decide +kernel
theorem d2_4 : decode prog_11_method_1_code 4 = .ok (.aload_n 0, 1) := by decide +kernel
theorem d2_5 : decode prog_11_method_1_code 5 = .ok (.aload_n 1, 1) := by decide +kernel
theorem d2_6 : decode prog_11_method_1_code 6 = .ok (.putfield 7, 3) := by decide +kernel
theorem d2_9 : decode prog_11_method_1_code 9 = .ok (.aload_n 0, 1) := by decide +kernel
theorem d2_10 : decode prog_11_method_1_code 10 = .ok (.aload_n 2, 1) := by decide +kernel
theorem d2_11 : decode prog_11_method_1_code 11 = .ok (.putfield 13, 3) := by decide +kernel
theorem d2_14 : decode prog_11_method_1_code 14 = .ok (.aload_n 0, 1) := by decide +kernel
theorem d2_15 : decode prog_11_method_1_code 15 = .ok (.aload_n 3, 1) := by decide +kernel
theorem d2_16 : decode prog_11_method_1_code 16 = .ok (.putfield 17, 3) := by decide +kernel
theorem d2_19 : decode prog_11_method_1_code 19 = .ok (.aload_n 0, 1) := by decide +kernel
theorem d2_20 : decode prog_11_method_1_code 20 = .ok (.aload 4, 2) := by decide +kernel
theorem d2_22 : decode prog_11_method_1_code 22 = .ok (.putfield 21, 3) := by decide +kernel
theorem d2_25 : decode prog_11_method_1_code 25 = .ok (.aload_n 0, 1) := by decide +kernel
theorem d2_26 : decode prog_11_method_1_code 26 = .ok (.aload 5, 2) := by decide +kernel
theorem d2_28 : decode prog_11_method_1_code 28 = .ok (.putfield 25, 3) := by decide +kernel
theorem d2_31 : decode prog_11_method_1_code 31 = .ok (.aload_n 0, 1) := by decide +kernel
theorem d2_32 : decode prog_11_method_1_code 32 = .ok (.aload 6, 2) := by decide +kernel
theorem d2_34 : decode prog_11_method_1_code 34 = .ok (.putfield 28, 3) := by decide +kernel
theorem d2_37 : decode prog_11_method_1_code 37 = .ok (.aload_n 0, 1) := by decide +kernel
theorem d2_38 : decode prog_11_method_1_code 38 = .ok (.aload 7, 2) := by decide +kernel
theorem d2_40 : decode prog_11_method_1_code 40 = .ok (.putfield 31, 3) := by decide +kernel
theorem d2_43 : decode prog_11_method_1_code 43 = .ok (.return_, 1) := by decide +kernel
theorem pn_com_example_seatwright_seatwright_engine_Decision : plainName "com/example/seatwright/seatwright/engine/Decision" = true := by first | (simp [plainName, overriddenIn]; done) | decide +kernel
theorem ef_rm2 (m : MethodId) (a : Addr) (r : Addr) : entryFrame m #[(.ref a), (.ref r), .null, .null, .null, .null, .null, .null] 8 = mkF m 0 #[.val (.ref a), .val (.ref r), .val .null, .val .null, .val .null, .val .null, .val .null, .val .null] [] := by first | exact own_entry rfl | (simp [entryFrame, mkF, argsToLocals, Value.category]; done) | rfl
set_option maxRecDepth 65536 in
set_option maxHeartbeats 40000000 in
theorem rm2 (l : Launch) (Z : State) (a0 : Array Value) (hw : ∀ d ∈ tables_1, d.before a0 Z = true) (a r : Addr) (h0 : Heap) (n0 : Nat) (Z0 : n0 ≤ h0.size) (E_a : Exa Z h0 a "com/example/seatwright/seatwright/engine/Decision") (ha : n0 ≤ a) (F_outcome : Fld Z h0 a "com/example/seatwright/seatwright/engine/Decision" "outcome" "Lcom/example/seatwright/seatwright/engine/Decision$Outcome;" .null) (F_seat : Fld Z h0 a "com/example/seatwright/seatwright/engine/Decision" "seat" "Lcom/example/seatwright/seatwright/engine/Seat;" .null) (F_reason : Fld Z h0 a "com/example/seatwright/seatwright/engine/Decision" "reason" "Lcom/example/seatwright/seatwright/engine/Reason;" .null) (F_unit : Fld Z h0 a "com/example/seatwright/seatwright/engine/Decision" "unit" "Ljava/lang/String;" .null) (F_license : Fld Z h0 a "com/example/seatwright/seatwright/engine/Decision" "license" "Ljava/lang/String;" .null) (F_daily : Fld Z h0 a "com/example/seatwright/seatwright/engine/Decision" "daily" "Ljava/lang/String;" .null) (F_named : Fld Z h0 a "com/example/seatwright/seatwright/engine/Decision" "named" "Ljava/lang/String;" .null) :
    Pays l (⟨"com/example/seatwright/seatwright/engine/Decision", "<init>", "(Lcom/example/seatwright/seatwright/engine/Decision$Outcome;Lcom/example/seatwright/seatwright/engine/Seat;Lcom/example/seatwright/seatwright/engine/Reason;Ljava/lang/String;Ljava/lang/String;Ljava/lang/String;Ljava/lang/String;)V"⟩ : MethodName) prog_11_method_1_code 8 none ({ frames := 1, cells := 0, slots := 0, locals := 12 } : Room) Z #[(.ref a), (.ref r), .null, .null, .null, .null, .null, .null] h0 (fun v h L => v = none ∧ Fr n0 L ∧ Keep h0 h [a] ∧ Exa Z h a "com/example/seatwright/seatwright/engine/Decision" ∧ Fld Z h a "com/example/seatwright/seatwright/engine/Decision" "outcome" "Lcom/example/seatwright/seatwright/engine/Decision$Outcome;" (.ref r) ∧ Fld Z h a "com/example/seatwright/seatwright/engine/Decision" "seat" "Lcom/example/seatwright/seatwright/engine/Seat;" .null ∧ Fld Z h a "com/example/seatwright/seatwright/engine/Decision" "reason" "Lcom/example/seatwright/seatwright/engine/Reason;" .null ∧ Fld Z h a "com/example/seatwright/seatwright/engine/Decision" "unit" "Ljava/lang/String;" .null ∧ Fld Z h a "com/example/seatwright/seatwright/engine/Decision" "license" "Ljava/lang/String;" .null ∧ Fld Z h a "com/example/seatwright/seatwright/engine/Decision" "daily" "Ljava/lang/String;" .null ∧ Fld Z h a "com/example/seatwright/seatwright/engine/Decision" "named" "Ljava/lang/String;" .null) := by
  refine Pays.of (plainFor_of_name pn_com_example_seatwright_seatwright_engine_Decision) ?_
  intro pP eE sS m below methM cC T hx hby hml hret hlk hZ hown hnm eT X
  replace hown : sS.vm.findClass "com/example/seatwright/seatwright/engine/Decision" = some m.cls := hown
  have N0 := Fr.nil n0
  have K0 := Keep.refl h0 [a]
  refine Go.cast (ef_rm2 m a r) ?_
  refine Go.st (S' := T.setTop (mkF m 1 #[.val (.ref a), .val (.ref r), .val .null, .val .null, .val .null, .val .null, .val .null, .val .null] [(.ref a)])) (fun t kt => XS.aloadN X.here hx rfl (hb hby d2_0) rfl rfl kt) ?_
  obtain ⟨T1, X1, e1, st1⟩ := initO X hx hZ hown (hw _ (List.mem_of_getElem? (i := 16) rfl)) (hw _ (List.mem_of_getElem? (i := 17) rfl)) (hw _ (List.mem_of_getElem? (i := 18) rfl)) eT (g := (mkF m 1 #[.val (.ref a), .val (.ref r), .val .null, .val .null, .val .null, .val .null, .val .null, .val .null] [(.ref a)])) rfl (by rw [hml]; rfl) rfl (hb hby d2_1) (by decide) (W := 0) (by show 2 * 0 + _ ≤ _; exact Nat.le_of_eq rfl) (by decide)
  refine Go.st (S' := T1.setTop (mkF m 4 #[.val (.ref a), .val (.ref r), .val .null, .val .null, .val .null, .val .null, .val .null, .val .null] [])) (fun t kt => st1 t kt) ?_
  refine Go.st (S' := T1.setTop (mkF m 5 #[.val (.ref a), .val (.ref r), .val .null, .val .null, .val .null, .val .null, .val .null, .val .null] [(.ref a)])) (fun t kt => XS.aloadN X1.here hx rfl (hb hby d2_4) rfl rfl kt) ?_
  refine Go.st (S' := T1.setTop (mkF m 6 #[.val (.ref a), .val (.ref r), .val .null, .val .null, .val .null, .val .null, .val .null, .val .null] [(.ref r), (.ref a)])) (fun t kt => XS.aloadN X1.here hx rfl (hb hby d2_5) rfl rfl kt) ?_
  obtain ⟨T2, h2, X2, e2, W2, st2⟩ := putF X1 hx hZ hown (host := "") (Or.inl (hw _ (List.mem_of_getElem? (i := 19) rfl))) Via.refl e1 F_outcome E_a (Or.inr ⟨(hw _ (List.mem_of_getElem? (i := 20) rfl)), rfl, hnm⟩) (hw _ (List.mem_of_getElem? (i := 12) rfl)) (ty := (.object "com/example/seatwright/seatwright/engine/Decision$Outcome")) (by decide) rfl rfl (g := (mkF m 6 #[.val (.ref a), .val (.ref r), .val .null, .val .null, .val .null, .val .null, .val .null, .val .null] [(.ref r), (.ref a)])) rfl rfl (hb hby d2_6)
  have F2 := Fld.same W2 F_outcome
  have N2 := Fr.snoc X2 N0 ha
  have Z2 : n0 ≤ h2.size := by rw [Wr.size W2]; exact Z0
  have K2 := Keep.wr K0 W2 (Or.inl (List.mem_of_getElem? (i := 0) rfl))
  refine Go.st (S' := T2.setTop (mkF m 9 #[.val (.ref a), .val (.ref r), .val .null, .val .null, .val .null, .val .null, .val .null, .val .null] [])) (fun t kt => st2 t kt) ?_
  refine Go.st (S' := T2.setTop (mkF m 10 #[.val (.ref a), .val (.ref r), .val .null, .val .null, .val .null, .val .null, .val .null, .val .null] [(.ref a)])) (fun t kt => XS.aloadN X2.here hx rfl (hb hby d2_9) rfl rfl kt) ?_
  refine Go.st (S' := T2.setTop (mkF m 11 #[.val (.ref a), .val (.ref r), .val .null, .val .null, .val .null, .val .null, .val .null, .val .null] [.null, (.ref a)])) (fun t kt => XS.aloadN X2.here hx rfl (hb hby d2_10) rfl rfl kt) ?_
  have f3 := (Fld.other W2 F_seat (Or.inr (slot_ne (Or.inr (hw _ (List.mem_of_getElem? (i := 22) rfl))) (Or.inr (hw _ (List.mem_of_getElem? (i := 20) rfl))) (by decide) (t := (.object "com/example/seatwright/seatwright/engine/Seat")) (t' := (.object "com/example/seatwright/seatwright/engine/Decision$Outcome")) (by decide) (by decide))))
  have f4 := (Exa.wr W2 E_a)
  obtain ⟨T5, h5, X5, e5, W5, st5⟩ := putF X2 hx hZ hown (host := "") (Or.inl (hw _ (List.mem_of_getElem? (i := 21) rfl))) Via.refl e2 f3 f4 (Or.inr ⟨(hw _ (List.mem_of_getElem? (i := 22) rfl)), rfl, hnm⟩) (hw _ (List.mem_of_getElem? (i := 12) rfl)) (ty := (.object "com/example/seatwright/seatwright/engine/Seat")) (by decide) rfl rfl (g := (mkF m 11 #[.val (.ref a), .val (.ref r), .val .null, .val .null, .val .null, .val .null, .val .null, .val .null] [.null, (.ref a)])) rfl rfl (hb hby d2_11)
  have F5 := Fld.same W5 f3
  have N5 := Fr.snoc X5 N2 ha
  have Z5 : n0 ≤ h5.size := by rw [Wr.size W5]; exact Z2
  have K5 := Keep.wr K2 W5 (Or.inl (List.mem_of_getElem? (i := 0) rfl))
  refine Go.st (S' := T5.setTop (mkF m 14 #[.val (.ref a), .val (.ref r), .val .null, .val .null, .val .null, .val .null, .val .null, .val .null] [])) (fun t kt => st5 t kt) ?_
  refine Go.st (S' := T5.setTop (mkF m 15 #[.val (.ref a), .val (.ref r), .val .null, .val .null, .val .null, .val .null, .val .null, .val .null] [(.ref a)])) (fun t kt => XS.aloadN X5.here hx rfl (hb hby d2_14) rfl rfl kt) ?_
  refine Go.st (S' := T5.setTop (mkF m 16 #[.val (.ref a), .val (.ref r), .val .null, .val .null, .val .null, .val .null, .val .null, .val .null] [.null, (.ref a)])) (fun t kt => XS.aloadN X5.here hx rfl (hb hby d2_15) rfl rfl kt) ?_
  have f6 := (Fld.other W5 (Fld.other W2 F_reason (Or.inr (slot_ne (Or.inr (hw _ (List.mem_of_getElem? (i := 24) rfl))) (Or.inr (hw _ (List.mem_of_getElem? (i := 20) rfl))) (by decide) (t := (.object "com/example/seatwright/seatwright/engine/Reason")) (t' := (.object "com/example/seatwright/seatwright/engine/Decision$Outcome")) (by decide) (by decide)))) (Or.inr (slot_ne (Or.inr (hw _ (List.mem_of_getElem? (i := 24) rfl))) (Or.inr (hw _ (List.mem_of_getElem? (i := 22) rfl))) (by decide) (t := (.object "com/example/seatwright/seatwright/engine/Reason")) (t' := (.object "com/example/seatwright/seatwright/engine/Seat")) (by decide) (by decide))))
  have f7 := (Exa.wr W5 f4)
  obtain ⟨T8, h8, X8, e8, W8, st8⟩ := putF X5 hx hZ hown (host := "") (Or.inl (hw _ (List.mem_of_getElem? (i := 23) rfl))) Via.refl e5 f6 f7 (Or.inr ⟨(hw _ (List.mem_of_getElem? (i := 24) rfl)), rfl, hnm⟩) (hw _ (List.mem_of_getElem? (i := 12) rfl)) (ty := (.object "com/example/seatwright/seatwright/engine/Reason")) (by decide) rfl rfl (g := (mkF m 16 #[.val (.ref a), .val (.ref r), .val .null, .val .null, .val .null, .val .null, .val .null, .val .null] [.null, (.ref a)])) rfl rfl (hb hby d2_16)
  have F8 := Fld.same W8 f6
  have N8 := Fr.snoc X8 N5 ha
  have Z8 : n0 ≤ h8.size := by rw [Wr.size W8]; exact Z5
  have K8 := Keep.wr K5 W8 (Or.inl (List.mem_of_getElem? (i := 0) rfl))
  refine Go.st (S' := T8.setTop (mkF m 19 #[.val (.ref a), .val (.ref r), .val .null, .val .null, .val .null, .val .null, .val .null, .val .null] [])) (fun t kt => st8 t kt) ?_
  refine Go.st (S' := T8.setTop (mkF m 20 #[.val (.ref a), .val (.ref r), .val .null, .val .null, .val .null, .val .null, .val .null, .val .null] [(.ref a)])) (fun t kt => XS.aloadN X8.here hx rfl (hb hby d2_19) rfl rfl kt) ?_
  refine Go.st (S' := T8.setTop (mkF m 22 #[.val (.ref a), .val (.ref r), .val .null, .val .null, .val .null, .val .null, .val .null, .val .null] [.null, (.ref a)])) (fun t kt => XS.aload X8.here hx rfl (hb hby d2_20) rfl rfl kt) ?_
  have f9 := (Fld.other W8 (Fld.other W5 (Fld.other W2 F_unit (Or.inr (slot_ne (Or.inr (hw _ (List.mem_of_getElem? (i := 26) rfl))) (Or.inr (hw _ (List.mem_of_getElem? (i := 20) rfl))) (by decide) (t := (.object "java/lang/String")) (t' := (.object "com/example/seatwright/seatwright/engine/Decision$Outcome")) (by decide) (by decide)))) (Or.inr (slot_ne (Or.inr (hw _ (List.mem_of_getElem? (i := 26) rfl))) (Or.inr (hw _ (List.mem_of_getElem? (i := 22) rfl))) (by decide) (t := (.object "java/lang/String")) (t' := (.object "com/example/seatwright/seatwright/engine/Seat")) (by decide) (by decide)))) (Or.inr (slot_ne (Or.inr (hw _ (List.mem_of_getElem? (i := 26) rfl))) (Or.inr (hw _ (List.mem_of_getElem? (i := 24) rfl))) (by decide) (t := (.object "java/lang/String")) (t' := (.object "com/example/seatwright/seatwright/engine/Reason")) (by decide) (by decide))))
  have f10 := (Exa.wr W8 f7)
  obtain ⟨T11, h11, X11, e11, W11, st11⟩ := putF X8 hx hZ hown (host := "") (Or.inl (hw _ (List.mem_of_getElem? (i := 25) rfl))) Via.refl e8 f9 f10 (Or.inr ⟨(hw _ (List.mem_of_getElem? (i := 26) rfl)), rfl, hnm⟩) (hw _ (List.mem_of_getElem? (i := 12) rfl)) (ty := (.object "java/lang/String")) (by decide) rfl rfl (g := (mkF m 22 #[.val (.ref a), .val (.ref r), .val .null, .val .null, .val .null, .val .null, .val .null, .val .null] [.null, (.ref a)])) rfl rfl (hb hby d2_22)
  have F11 := Fld.same W11 f9
  have N11 := Fr.snoc X11 N8 ha
  have Z11 : n0 ≤ h11.size := by rw [Wr.size W11]; exact Z8
  have K11 := Keep.wr K8 W11 (Or.inl (List.mem_of_getElem? (i := 0) rfl))
  refine Go.st (S' := T11.setTop (mkF m 25 #[.val (.ref a), .val (.ref r), .val .null, .val .null, .val .null, .val .null, .val .null, .val .null] [])) (fun t kt => st11 t kt) ?_
  refine Go.st (S' := T11.setTop (mkF m 26 #[.val (.ref a), .val (.ref r), .val .null, .val .null, .val .null, .val .null, .val .null, .val .null] [(.ref a)])) (fun t kt => XS.aloadN X11.here hx rfl (hb hby d2_25) rfl rfl kt) ?_
  refine Go.st (S' := T11.setTop (mkF m 28 #[.val (.ref a), .val (.ref r), .val .null, .val .null, .val .null, .val .null, .val .null, .val .null] [.null, (.ref a)])) (fun t kt => XS.aload X11.here hx rfl (hb hby d2_26) rfl rfl kt) ?_
  have f12 := (Fld.other W11 (Fld.other W8 (Fld.other W5 (Fld.other W2 F_license (Or.inr (slot_ne (Or.inr (hw _ (List.mem_of_getElem? (i := 28) rfl))) (Or.inr (hw _ (List.mem_of_getElem? (i := 20) rfl))) (by decide) (t := (.object "java/lang/String")) (t' := (.object "com/example/seatwright/seatwright/engine/Decision$Outcome")) (by decide) (by decide)))) (Or.inr (slot_ne (Or.inr (hw _ (List.mem_of_getElem? (i := 28) rfl))) (Or.inr (hw _ (List.mem_of_getElem? (i := 22) rfl))) (by decide) (t := (.object "java/lang/String")) (t' := (.object "com/example/seatwright/seatwright/engine/Seat")) (by decide) (by decide)))) (Or.inr (slot_ne (Or.inr (hw _ (List.mem_of_getElem? (i := 28) rfl))) (Or.inr (hw _ (List.mem_of_getElem? (i := 24) rfl))) (by decide) (t := (.object "java/lang/String")) (t' := (.object "com/example/seatwright/seatwright/engine/Reason")) (by decide) (by decide)))) (Or.inr (slot_ne (Or.inr (hw _ (List.mem_of_getElem? (i := 28) rfl))) (Or.inr (hw _ (List.mem_of_getElem? (i := 26) rfl))) (by decide) (t := (.object "java/lang/String")) (t' := (.object "java/lang/String")) (by decide) (by decide))))
  have f13 := (Exa.wr W11 f10)
  obtain ⟨T14, h14, X14, e14, W14, st14⟩ := putF X11 hx hZ hown (host := "") (Or.inl (hw _ (List.mem_of_getElem? (i := 27) rfl))) Via.refl e11 f12 f13 (Or.inr ⟨(hw _ (List.mem_of_getElem? (i := 28) rfl)), rfl, hnm⟩) (hw _ (List.mem_of_getElem? (i := 12) rfl)) (ty := (.object "java/lang/String")) (by decide) rfl rfl (g := (mkF m 28 #[.val (.ref a), .val (.ref r), .val .null, .val .null, .val .null, .val .null, .val .null, .val .null] [.null, (.ref a)])) rfl rfl (hb hby d2_28)
  have F14 := Fld.same W14 f12
  have N14 := Fr.snoc X14 N11 ha
  have Z14 : n0 ≤ h14.size := by rw [Wr.size W14]; exact Z11
  have K14 := Keep.wr K11 W14 (Or.inl (List.mem_of_getElem? (i := 0) rfl))
  refine Go.st (S' := T14.setTop (mkF m 31 #[.val (.ref a), .val (.ref r), .val .null, .val .null, .val .null, .val .null, .val .null, .val .null] [])) (fun t kt => st14 t kt) ?_
  refine Go.st (S' := T14.setTop (mkF m 32 #[.val (.ref a), .val (.ref r), .val .null, .val .null, .val .null, .val .null, .val .null, .val .null] [(.ref a)])) (fun t kt => XS.aloadN X14.here hx rfl (hb hby d2_31) rfl rfl kt) ?_
  refine Go.st (S' := T14.setTop (mkF m 34 #[.val (.ref a), .val (.ref r), .val .null, .val .null, .val .null, .val .null, .val .null, .val .null] [.null, (.ref a)])) (fun t kt => XS.aload X14.here hx rfl (hb hby d2_32) rfl rfl kt) ?_
  have f15 := (Fld.other W14 (Fld.other W11 (Fld.other W8 (Fld.other W5 (Fld.other W2 F_daily (Or.inr (slot_ne (Or.inr (hw _ (List.mem_of_getElem? (i := 30) rfl))) (Or.inr (hw _ (List.mem_of_getElem? (i := 20) rfl))) (by decide) (t := (.object "java/lang/String")) (t' := (.object "com/example/seatwright/seatwright/engine/Decision$Outcome")) (by decide) (by decide)))) (Or.inr (slot_ne (Or.inr (hw _ (List.mem_of_getElem? (i := 30) rfl))) (Or.inr (hw _ (List.mem_of_getElem? (i := 22) rfl))) (by decide) (t := (.object "java/lang/String")) (t' := (.object "com/example/seatwright/seatwright/engine/Seat")) (by decide) (by decide)))) (Or.inr (slot_ne (Or.inr (hw _ (List.mem_of_getElem? (i := 30) rfl))) (Or.inr (hw _ (List.mem_of_getElem? (i := 24) rfl))) (by decide) (t := (.object "java/lang/String")) (t' := (.object "com/example/seatwright/seatwright/engine/Reason")) (by decide) (by decide)))) (Or.inr (slot_ne (Or.inr (hw _ (List.mem_of_getElem? (i := 30) rfl))) (Or.inr (hw _ (List.mem_of_getElem? (i := 26) rfl))) (by decide) (t := (.object "java/lang/String")) (t' := (.object "java/lang/String")) (by decide) (by decide)))) (Or.inr (slot_ne (Or.inr (hw _ (List.mem_of_getElem? (i := 30) rfl))) (Or.inr (hw _ (List.mem_of_getElem? (i := 28) rfl))) (by decide) (t := (.object "java/lang/String")) (t' := (.object "java/lang/String")) (by decide) (by decide))))
  have f16 := (Exa.wr W14 f13)
  obtain ⟨T17, h17, X17, e17, W17, st17⟩ := putF X14 hx hZ hown (host := "") (Or.inl (hw _ (List.mem_of_getElem? (i := 29) rfl))) Via.refl e14 f15 f16 (Or.inr ⟨(hw _ (List.mem_of_getElem? (i := 30) rfl)), rfl, hnm⟩) (hw _ (List.mem_of_getElem? (i := 12) rfl)) (ty := (.object "java/lang/String")) (by decide) rfl rfl (g := (mkF m 34 #[.val (.ref a), .val (.ref r), .val .null, .val .null, .val .null, .val .null, .val .null, .val .null] [.null, (.ref a)])) rfl rfl (hb hby d2_34)
  have F17 := Fld.same W17 f15
  have N17 := Fr.snoc X17 N14 ha
  have Z17 : n0 ≤ h17.size := by rw [Wr.size W17]; exact Z14
  have K17 := Keep.wr K14 W17 (Or.inl (List.mem_of_getElem? (i := 0) rfl))
  refine Go.st (S' := T17.setTop (mkF m 37 #[.val (.ref a), .val (.ref r), .val .null, .val .null, .val .null, .val .null, .val .null, .val .null] [])) (fun t kt => st17 t kt) ?_
  refine Go.st (S' := T17.setTop (mkF m 38 #[.val (.ref a), .val (.ref r), .val .null, .val .null, .val .null, .val .null, .val .null, .val .null] [(.ref a)])) (fun t kt => XS.aloadN X17.here hx rfl (hb hby d2_37) rfl rfl kt) ?_
  refine Go.st (S' := T17.setTop (mkF m 40 #[.val (.ref a), .val (.ref r), .val .null, .val .null, .val .null, .val .null, .val .null, .val .null] [.null, (.ref a)])) (fun t kt => XS.aload X17.here hx rfl (hb hby d2_38) rfl rfl kt) ?_
  have f18 := (Fld.other W17 (Fld.other W14 (Fld.other W11 (Fld.other W8 (Fld.other W5 (Fld.other W2 F_named (Or.inr (slot_ne (Or.inr (hw _ (List.mem_of_getElem? (i := 32) rfl))) (Or.inr (hw _ (List.mem_of_getElem? (i := 20) rfl))) (by decide) (t := (.object "java/lang/String")) (t' := (.object "com/example/seatwright/seatwright/engine/Decision$Outcome")) (by decide) (by decide)))) (Or.inr (slot_ne (Or.inr (hw _ (List.mem_of_getElem? (i := 32) rfl))) (Or.inr (hw _ (List.mem_of_getElem? (i := 22) rfl))) (by decide) (t := (.object "java/lang/String")) (t' := (.object "com/example/seatwright/seatwright/engine/Seat")) (by decide) (by decide)))) (Or.inr (slot_ne (Or.inr (hw _ (List.mem_of_getElem? (i := 32) rfl))) (Or.inr (hw _ (List.mem_of_getElem? (i := 24) rfl))) (by decide) (t := (.object "java/lang/String")) (t' := (.object "com/example/seatwright/seatwright/engine/Reason")) (by decide) (by decide)))) (Or.inr (slot_ne (Or.inr (hw _ (List.mem_of_getElem? (i := 32) rfl))) (Or.inr (hw _ (List.mem_of_getElem? (i := 26) rfl))) (by decide) (t := (.object "java/lang/String")) (t' := (.object "java/lang/String")) (by decide) (by decide)))) (Or.inr (slot_ne (Or.inr (hw _ (List.mem_of_getElem? (i := 32) rfl))) (Or.inr (hw _ (List.mem_of_getElem? (i := 28) rfl))) (by decide) (t := (.object "java/lang/String")) (t' := (.object "java/lang/String")) (by decide) (by decide)))) (Or.inr (slot_ne (Or.inr (hw _ (List.mem_of_getElem? (i := 32) rfl))) (Or.inr (hw _ (List.mem_of_getElem? (i := 30) rfl))) (by decide) (t := (.object "java/lang/String")) (t' := (.object "java/lang/String")) (by decide) (by decide))))
  have f19 := (Exa.wr W17 f16)
  obtain ⟨T20, h20, X20, e20, W20, st20⟩ := putF X17 hx hZ hown (host := "") (Or.inl (hw _ (List.mem_of_getElem? (i := 31) rfl))) Via.refl e17 f18 f19 (Or.inr ⟨(hw _ (List.mem_of_getElem? (i := 32) rfl)), rfl, hnm⟩) (hw _ (List.mem_of_getElem? (i := 12) rfl)) (ty := (.object "java/lang/String")) (by decide) rfl rfl (g := (mkF m 40 #[.val (.ref a), .val (.ref r), .val .null, .val .null, .val .null, .val .null, .val .null, .val .null] [.null, (.ref a)])) rfl rfl (hb hby d2_40)
  have F20 := Fld.same W20 f18
  have N20 := Fr.snoc X20 N17 ha
  have Z20 : n0 ≤ h20.size := by rw [Wr.size W20]; exact Z17
  have K20 := Keep.wr K17 W20 (Or.inl (List.mem_of_getElem? (i := 0) rfl))
  refine Go.st (S' := T20.setTop (mkF m 43 #[.val (.ref a), .val (.ref r), .val .null, .val .null, .val .null, .val .null, .val .null, .val .null] [])) (fun t kt => st20 t kt) ?_
  have f21 := (Exa.wr W20 f19)
  have f22 := (Fld.other W20 (Fld.other W17 (Fld.other W14 (Fld.other W11 (Fld.other W8 (Fld.other W5 F2 (Or.inr (slot_ne (Or.inr (hw _ (List.mem_of_getElem? (i := 20) rfl))) (Or.inr (hw _ (List.mem_of_getElem? (i := 22) rfl))) (by decide) (t := (.object "com/example/seatwright/seatwright/engine/Decision$Outcome")) (t' := (.object "com/example/seatwright/seatwright/engine/Seat")) (by decide) (by decide)))) (Or.inr (slot_ne (Or.inr (hw _ (List.mem_of_getElem? (i := 20) rfl))) (Or.inr (hw _ (List.mem_of_getElem? (i := 24) rfl))) (by decide) (t := (.object "com/example/seatwright/seatwright/engine/Decision$Outcome")) (t' := (.object "com/example/seatwright/seatwright/engine/Reason")) (by decide) (by decide)))) (Or.inr (slot_ne (Or.inr (hw _ (List.mem_of_getElem? (i := 20) rfl))) (Or.inr (hw _ (List.mem_of_getElem? (i := 26) rfl))) (by decide) (t := (.object "com/example/seatwright/seatwright/engine/Decision$Outcome")) (t' := (.object "java/lang/String")) (by decide) (by decide)))) (Or.inr (slot_ne (Or.inr (hw _ (List.mem_of_getElem? (i := 20) rfl))) (Or.inr (hw _ (List.mem_of_getElem? (i := 28) rfl))) (by decide) (t := (.object "com/example/seatwright/seatwright/engine/Decision$Outcome")) (t' := (.object "java/lang/String")) (by decide) (by decide)))) (Or.inr (slot_ne (Or.inr (hw _ (List.mem_of_getElem? (i := 20) rfl))) (Or.inr (hw _ (List.mem_of_getElem? (i := 30) rfl))) (by decide) (t := (.object "com/example/seatwright/seatwright/engine/Decision$Outcome")) (t' := (.object "java/lang/String")) (by decide) (by decide)))) (Or.inr (slot_ne (Or.inr (hw _ (List.mem_of_getElem? (i := 20) rfl))) (Or.inr (hw _ (List.mem_of_getElem? (i := 32) rfl))) (by decide) (t := (.object "com/example/seatwright/seatwright/engine/Decision$Outcome")) (t' := (.object "java/lang/String")) (by decide) (by decide))))
  have f23 := (Fld.other W20 (Fld.other W17 (Fld.other W14 (Fld.other W11 (Fld.other W8 F5 (Or.inr (slot_ne (Or.inr (hw _ (List.mem_of_getElem? (i := 22) rfl))) (Or.inr (hw _ (List.mem_of_getElem? (i := 24) rfl))) (by decide) (t := (.object "com/example/seatwright/seatwright/engine/Seat")) (t' := (.object "com/example/seatwright/seatwright/engine/Reason")) (by decide) (by decide)))) (Or.inr (slot_ne (Or.inr (hw _ (List.mem_of_getElem? (i := 22) rfl))) (Or.inr (hw _ (List.mem_of_getElem? (i := 26) rfl))) (by decide) (t := (.object "com/example/seatwright/seatwright/engine/Seat")) (t' := (.object "java/lang/String")) (by decide) (by decide)))) (Or.inr (slot_ne (Or.inr (hw _ (List.mem_of_getElem? (i := 22) rfl))) (Or.inr (hw _ (List.mem_of_getElem? (i := 28) rfl))) (by decide) (t := (.object "com/example/seatwright/seatwright/engine/Seat")) (t' := (.object "java/lang/String")) (by decide) (by decide)))) (Or.inr (slot_ne (Or.inr (hw _ (List.mem_of_getElem? (i := 22) rfl))) (Or.inr (hw _ (List.mem_of_getElem? (i := 30) rfl))) (by decide) (t := (.object "com/example/seatwright/seatwright/engine/Seat")) (t' := (.object "java/lang/String")) (by decide) (by decide)))) (Or.inr (slot_ne (Or.inr (hw _ (List.mem_of_getElem? (i := 22) rfl))) (Or.inr (hw _ (List.mem_of_getElem? (i := 32) rfl))) (by decide) (t := (.object "com/example/seatwright/seatwright/engine/Seat")) (t' := (.object "java/lang/String")) (by decide) (by decide))))
  have f24 := (Fld.other W20 (Fld.other W17 (Fld.other W14 (Fld.other W11 F8 (Or.inr (slot_ne (Or.inr (hw _ (List.mem_of_getElem? (i := 24) rfl))) (Or.inr (hw _ (List.mem_of_getElem? (i := 26) rfl))) (by decide) (t := (.object "com/example/seatwright/seatwright/engine/Reason")) (t' := (.object "java/lang/String")) (by decide) (by decide)))) (Or.inr (slot_ne (Or.inr (hw _ (List.mem_of_getElem? (i := 24) rfl))) (Or.inr (hw _ (List.mem_of_getElem? (i := 28) rfl))) (by decide) (t := (.object "com/example/seatwright/seatwright/engine/Reason")) (t' := (.object "java/lang/String")) (by decide) (by decide)))) (Or.inr (slot_ne (Or.inr (hw _ (List.mem_of_getElem? (i := 24) rfl))) (Or.inr (hw _ (List.mem_of_getElem? (i := 30) rfl))) (by decide) (t := (.object "com/example/seatwright/seatwright/engine/Reason")) (t' := (.object "java/lang/String")) (by decide) (by decide)))) (Or.inr (slot_ne (Or.inr (hw _ (List.mem_of_getElem? (i := 24) rfl))) (Or.inr (hw _ (List.mem_of_getElem? (i := 32) rfl))) (by decide) (t := (.object "com/example/seatwright/seatwright/engine/Reason")) (t' := (.object "java/lang/String")) (by decide) (by decide))))
  have f25 := (Fld.other W20 (Fld.other W17 (Fld.other W14 F11 (Or.inr (slot_ne (Or.inr (hw _ (List.mem_of_getElem? (i := 26) rfl))) (Or.inr (hw _ (List.mem_of_getElem? (i := 28) rfl))) (by decide) (t := (.object "java/lang/String")) (t' := (.object "java/lang/String")) (by decide) (by decide)))) (Or.inr (slot_ne (Or.inr (hw _ (List.mem_of_getElem? (i := 26) rfl))) (Or.inr (hw _ (List.mem_of_getElem? (i := 30) rfl))) (by decide) (t := (.object "java/lang/String")) (t' := (.object "java/lang/String")) (by decide) (by decide)))) (Or.inr (slot_ne (Or.inr (hw _ (List.mem_of_getElem? (i := 26) rfl))) (Or.inr (hw _ (List.mem_of_getElem? (i := 32) rfl))) (by decide) (t := (.object "java/lang/String")) (t' := (.object "java/lang/String")) (by decide) (by decide))))
  have f26 := (Fld.other W20 (Fld.other W17 F14 (Or.inr (slot_ne (Or.inr (hw _ (List.mem_of_getElem? (i := 28) rfl))) (Or.inr (hw _ (List.mem_of_getElem? (i := 30) rfl))) (by decide) (t := (.object "java/lang/String")) (t' := (.object "java/lang/String")) (by decide) (by decide)))) (Or.inr (slot_ne (Or.inr (hw _ (List.mem_of_getElem? (i := 28) rfl))) (Or.inr (hw _ (List.mem_of_getElem? (i := 32) rfl))) (by decide) (t := (.object "java/lang/String")) (t' := (.object "java/lang/String")) (by decide) (by decide))))
  have f27 := (Fld.other W20 F17 (Or.inr (slot_ne (Or.inr (hw _ (List.mem_of_getElem? (i := 30) rfl))) (Or.inr (hw _ (List.mem_of_getElem? (i := 32) rfl))) (by decide) (t := (.object "java/lang/String")) (t' := (.object "java/lang/String")) (by decide) (by decide))))
  exact ret_v X20 hx hlk hret (hb hby d2_43) (by decide) (by decide) (by rw [e20]; exact ⟨rfl, N20, K20, f21, f22, f23, f24, f25, f26, f27, F20⟩)
theorem d3_0 : decode prog_11_method_6_code 0 = .ok (.new 8, 3) := by decide +kernel
theorem d3_3 : decode prog_11_method_6_code 3 = .ok (.dup, 1) := by decide +kernel
theorem d3_4 : decode prog_11_method_6_code 4 = .ok (.aload_n 0, 1) := by decide +kernel
theorem d3_5 : decode prog_11_method_6_code 5 = .ok (.aconst_null, 1) := by decide +kernel
theorem d3_6 : decode prog_11_method_6_code 6 = .ok (.aconst_null, 1) := by decide +kernel
theorem d3_7 : decode prog_11_method_6_code 7 = .ok (.aconst_null, 1) := by decide +kernel
theorem d3_8 : decode prog_11_method_6_code 8 = .ok (.aconst_null, 1) := by decide +kernel
theorem d3_9 : decode prog_11_method_6_code 9 = .ok (.aconst_null, 1) := by decide +kernel
theorem d3_10 : decode prog_11_method_6_code 10 = .ok (.aconst_null, 1) := by decide +kernel
theorem d3_11 : decode prog_11_method_6_code 11 = .ok (.invokespecial 44, 3) := by decide +kernel
theorem d3_14 : decode prog_11_method_6_code 14 = .ok (.areturn, 1) := by decide +kernel
theorem pd__Lcom_example_seatwright_seatwright_engine_Decision_Outcome_Lcom_example_seatwright_seatwright_engine_Seat_Lcom_example_seatwright_seatwright_engine_Reason_Ljava_lang_String_Ljava_lang_String_Ljava_lang_String_Ljava_lang_String__V : parseMethodDescriptor "(Lcom/example/seatwright/seatwright/engine/Decision$Outcome;Lcom/example/seatwright/seatwright/engine/Seat;Lcom/example/seatwright/seatwright/engine/Reason;Ljava/lang/String;Ljava/lang/String;Ljava/lang/String;Ljava/lang/String;)V" = some ⟨[(.object "com/example/seatwright/seatwright/engine/Decision$Outcome"), (.object "com/example/seatwright/seatwright/engine/Seat"), (.object "com/example/seatwright/seatwright/engine/Reason"), (.object "java/lang/String"), (.object "java/lang/String"), (.object "java/lang/String"), (.object "java/lang/String")], none⟩ := by decide +kernel
theorem ef_rm3 (m : MethodId) (r : Addr) : entryFrame m #[(.ref r)] 1 = mkF m 0 #[.val (.ref r)] [] := by first | exact own_entry rfl | (simp [entryFrame, mkF, argsToLocals, Value.category]; done) | rfl
set_option maxRecDepth 65536 in
set_option maxHeartbeats 40000000 in
theorem rm3 (l : Launch) (Z : State) (a0 : Array Value) (hw : ∀ d ∈ tables_1, d.before a0 Z = true) (r : Addr) (h0 : Heap) (n0 : Nat) (Z0 : n0 ≤ h0.size) :
    Pays l (⟨"com/example/seatwright/seatwright/engine/Decision", "assignment", "(Lcom/example/seatwright/seatwright/engine/Decision$Outcome;)Lcom/example/seatwright/seatwright/engine/Decision;"⟩ : MethodName) prog_11_method_6_code 1 (some (.object "com/example/seatwright/seatwright/engine/Decision")) ({ frames := 2, cells := 1, slots := 7, locals := 32 } : Room) Z #[(.ref r)] h0 (fun v h L => ∃ b, v = some (.ref b) ∧ Fr n0 L ∧ Keep h0 h [] ∧ h0.size ≤ b ∧ n0 ≤ b ∧ Exa Z h b "com/example/seatwright/seatwright/engine/Decision" ∧ Fld Z h b "com/example/seatwright/seatwright/engine/Decision" "outcome" "Lcom/example/seatwright/seatwright/engine/Decision$Outcome;" (.ref r) ∧ Fld Z h b "com/example/seatwright/seatwright/engine/Decision" "seat" "Lcom/example/seatwright/seatwright/engine/Seat;" .null ∧ Fld Z h b "com/example/seatwright/seatwright/engine/Decision" "reason" "Lcom/example/seatwright/seatwright/engine/Reason;" .null ∧ Fld Z h b "com/example/seatwright/seatwright/engine/Decision" "unit" "Ljava/lang/String;" .null ∧ Fld Z h b "com/example/seatwright/seatwright/engine/Decision" "license" "Ljava/lang/String;" .null ∧ Fld Z h b "com/example/seatwright/seatwright/engine/Decision" "daily" "Ljava/lang/String;" .null ∧ Fld Z h b "com/example/seatwright/seatwright/engine/Decision" "named" "Ljava/lang/String;" .null) := by
  refine Pays.of (plainFor_of_name pn_com_example_seatwright_seatwright_engine_Decision) ?_
  intro pP eE sS m below methM cC T hx hby hml hret hlk hZ hown hnm eT X
  replace hown : sS.vm.findClass "com/example/seatwright/seatwright/engine/Decision" = some m.cls := hown
  have N0 := Fr.nil n0
  have K0 := Keep.refl h0 ([] : List Addr)
  refine Go.cast (ef_rm3 m r) ?_
  obtain ⟨T1, h1, X1, e1, E1, A1, D1, -, st1⟩ := newO X hx hZ hown (hw _ (List.mem_of_getElem? (i := 11) rfl)) (hw _ (List.mem_of_getElem? (i := 12) rfl)) (hw _ (List.mem_of_getElem? (i := 9) rfl)) eT (g := (mkF m 0 #[.val (.ref r)] [])) rfl (hb hby d3_0) (by decide) (by decide)
  obtain ⟨a1, g1⟩ : ∃ z, z = h0.size := ⟨_, rfl⟩
  rw [← g1] at A1 D1 st1
  have Z1 : n0 ≤ h1.size := Nat.le_trans Z0 E1.1
  have F1_outcome : Fld Z h1 a1 "com/example/seatwright/seatwright/engine/Decision" "outcome" "Lcom/example/seatwright/seatwright/engine/Decision$Outcome;" .null := D1 (Or.inr (hw _ (List.mem_of_getElem? (i := 20) rfl))) (ty := (.object "com/example/seatwright/seatwright/engine/Decision$Outcome")) (by decide)
  have F1_seat : Fld Z h1 a1 "com/example/seatwright/seatwright/engine/Decision" "seat" "Lcom/example/seatwright/seatwright/engine/Seat;" .null := D1 (Or.inr (hw _ (List.mem_of_getElem? (i := 22) rfl))) (ty := (.object "com/example/seatwright/seatwright/engine/Seat")) (by decide)
  have F1_reason : Fld Z h1 a1 "com/example/seatwright/seatwright/engine/Decision" "reason" "Lcom/example/seatwright/seatwright/engine/Reason;" .null := D1 (Or.inr (hw _ (List.mem_of_getElem? (i := 24) rfl))) (ty := (.object "com/example/seatwright/seatwright/engine/Reason")) (by decide)
  have F1_unit : Fld Z h1 a1 "com/example/seatwright/seatwright/engine/Decision" "unit" "Ljava/lang/String;" .null := D1 (Or.inr (hw _ (List.mem_of_getElem? (i := 26) rfl))) (ty := (.object "java/lang/String")) (by decide)
  have F1_license : Fld Z h1 a1 "com/example/seatwright/seatwright/engine/Decision" "license" "Ljava/lang/String;" .null := D1 (Or.inr (hw _ (List.mem_of_getElem? (i := 28) rfl))) (ty := (.object "java/lang/String")) (by decide)
  have F1_daily : Fld Z h1 a1 "com/example/seatwright/seatwright/engine/Decision" "daily" "Ljava/lang/String;" .null := D1 (Or.inr (hw _ (List.mem_of_getElem? (i := 30) rfl))) (ty := (.object "java/lang/String")) (by decide)
  have F1_named : Fld Z h1 a1 "com/example/seatwright/seatwright/engine/Decision" "named" "Ljava/lang/String;" .null := D1 (Or.inr (hw _ (List.mem_of_getElem? (i := 32) rfl))) (ty := (.object "java/lang/String")) (by decide)
  have K1 := Keep.ext K0 E1
  have sz_a1 : h0.size ≤ a1 := Nat.le_trans K0.1 (Nat.le_of_eq g1.symm)
  refine Go.st (S' := T1.setTop (mkF m 3 #[.val (.ref r)] [(.ref a1)])) (fun t kt => st1 t kt) ?_
  refine Go.st (S' := T1.setTop (mkF m 4 #[.val (.ref r)] [(.ref a1), (.ref a1)])) (fun t kt => XS.dup X1.here hx rfl (hb hby d3_3) rfl rfl kt) ?_
  refine Go.st (S' := T1.setTop (mkF m 5 #[.val (.ref r)] [(.ref r), (.ref a1), (.ref a1)])) (fun t kt => XS.aloadN X1.here hx rfl (hb hby d3_4) rfl rfl kt) ?_
  refine Go.st (S' := T1.setTop (mkF m 6 #[.val (.ref r)] [.null, (.ref r), (.ref a1), (.ref a1)])) (fun t kt => XS.aconstNull X1.here hx rfl (hb hby d3_5) kt) ?_
  refine Go.st (S' := T1.setTop (mkF m 7 #[.val (.ref r)] [.null, .null, (.ref r), (.ref a1), (.ref a1)])) (fun t kt => XS.aconstNull X1.here hx rfl (hb hby d3_6) kt) ?_
  refine Go.st (S' := T1.setTop (mkF m 8 #[.val (.ref r)] [.null, .null, .null, (.ref r), (.ref a1), (.ref a1)])) (fun t kt => XS.aconstNull X1.here hx rfl (hb hby d3_7) kt) ?_
  refine Go.st (S' := T1.setTop (mkF m 9 #[.val (.ref r)] [.null, .null, .null, .null, (.ref r), (.ref a1), (.ref a1)])) (fun t kt => XS.aconstNull X1.here hx rfl (hb hby d3_8) kt) ?_
  refine Go.st (S' := T1.setTop (mkF m 10 #[.val (.ref r)] [.null, .null, .null, .null, .null, (.ref r), (.ref a1), (.ref a1)])) (fun t kt => XS.aconstNull X1.here hx rfl (hb hby d3_9) kt) ?_
  refine Go.st (S' := T1.setTop (mkF m 11 #[.val (.ref r)] [.null, .null, .null, .null, .null, .null, (.ref r), (.ref a1), (.ref a1)])) (fun t kt => XS.aconstNull X1.here hx rfl (hb hby d3_10) kt) ?_
  refine Go.init X1 hx hZ rfl hown (hw _ (List.mem_of_getElem? (i := 13) rfl)) (hw _ (List.mem_of_getElem? (i := 14) rfl)) (hw _ (List.mem_of_getElem? (i := 15) rfl)) (hw _ (List.mem_of_getElem? (i := 9) rfl)) (by decide) (b := a1) (argsL := [(.ref r), .null, .null, .null, .null, .null, .null]) (rest := [(.ref a1)]) (rm2 l Z a0 hw a1 r h1 n0 Z1 A1 (Nat.le_trans Z0 (Nat.le_of_eq g1.symm)) F1_outcome F1_seat F1_reason F1_unit F1_license F1_daily F1_named) e1 rfl (by rw [hml]; rfl) pd__Lcom_example_seatwright_seatwright_engine_Decision_Outcome_Lcom_example_seatwright_seatwright_engine_Seat_Lcom_example_seatwright_seatwright_engine_Reason_Ljava_lang_String_Ljava_lang_String_Ljava_lang_String_Ljava_lang_String__V rfl (hb hby d3_11) 1 (Nat.le_refl _) (by decide) (by decide) (by decide) (by decide) ?_
  intro v2 T2 L2 X2 hQ2
  obtain ⟨hv2, N2', K2', f2_0, f2_1, f2_2, f2_3, f2_4, f2_5, f2_6, f2_7⟩ := hQ2
  subst hv2
  have N2 := Fr.app N0 N2'
  have Z2 : n0 ≤ T2.heap.size := Nat.le_trans Z1 K2'.1
  have eh2 : T2.heap = T2.heap := rfl
  have K2 := Keep.trans K1 K2' (allS (Or.inr sz_a1) all0)
  show Go pP eE below _ (T2.setTop (mkF m 14 #[.val (.ref r)] [(.ref a1)]))
  exact ret_a X2 hx hlk hret rfl rfl (hb hby d3_14) (by decide) (by decide) (by exact ⟨_, rfl, N2, K2, sz_a1, (Nat.le_trans Z0 (Nat.le_of_eq g1.symm)), f2_0, f2_1, f2_2, f2_3, f2_4, f2_5, f2_6, f2_7⟩)
theorem d4_0 : decode prog_11_method_9_code 0 = .ok (.aload_n 0, 1) := by decide +kernel
theorem d4_1 : decode prog_11_method_9_code 1 = .ok (.getfield 7, 3) := by decide +kernel
theorem d4_4 : decode prog_11_method_9_code 4 = .ok (.areturn, 1) := by decide +kernel
theorem ef_rm4 (m : MethodId) (a : Addr) : entryFrame m #[(.ref a)] 1 = mkF m 0 #[.val (.ref a)] [] := by first | exact own_entry rfl | (simp [entryFrame, mkF, argsToLocals, Value.category]; done) | rfl
set_option maxRecDepth 65536 in
set_option maxHeartbeats 40000000 in
theorem rm4 (l : Launch) (Z : State) (a0 : Array Value) (hw : ∀ d ∈ tables_1, d.before a0 Z = true) (a : Addr) (u : Value) (hu : u.isRef = true) (h0 : Heap) (n0 : Nat) (Z0 : n0 ≤ h0.size) (F : Fld Z h0 a "com/example/seatwright/seatwright/engine/Decision" "outcome" "Lcom/example/seatwright/seatwright/engine/Decision$Outcome;" u) :
    Pays l (⟨"com/example/seatwright/seatwright/engine/Decision", "outcome", "()Lcom/example/seatwright/seatwright/engine/Decision$Outcome;"⟩ : MethodName) prog_11_method_9_code 1 (some (.object "com/example/seatwright/seatwright/engine/Decision$Outcome")) ({ frames := 0, cells := 0, slots := 0, locals := 0 } : Room) Z #[(.ref a)] h0 (fun v h L => v = some u ∧ Fr n0 L ∧ h = h0) := by
  refine Pays.of (plainFor_of_name pn_com_example_seatwright_seatwright_engine_Decision) ?_
  intro pP eE sS m below methM cC T hx hby hml hret hlk hZ hown hnm eT X
  replace hown : sS.vm.findClass "com/example/seatwright/seatwright/engine/Decision" = some m.cls := hown
  have N0 := Fr.nil n0
  refine Go.cast (ef_rm4 m a) ?_
  refine Go.st (S' := T.setTop (mkF m 1 #[.val (.ref a)] [(.ref a)])) (fun t kt => XS.aloadN X.here hx rfl (hb hby d4_0) rfl rfl kt) ?_
  obtain ⟨T1, X1, e1, st1⟩ := getF X hx hZ hown (host := "") (Or.inl (hw _ (List.mem_of_getElem? (i := 19) rfl))) Via.refl eT F (g := (mkF m 1 #[.val (.ref a)] [(.ref a)])) rfl rfl (hb hby d4_1)
  refine Go.st (S' := T1.setTop (mkF m 4 #[.val (.ref a)] [u])) (fun t kt => st1 t kt) ?_
  exact ret_a X1 hx hlk hret rfl hu (hb hby d4_4) (by decide) (by decide) (⟨rfl, N0, e1⟩)
theorem d5_0 : decode prog_11_method_10_code 0 = .ok (.aload_n 0, 1) := by decide +kernel
theorem d5_1 : decode prog_11_method_10_code 1 = .ok (.getfield 13, 3) := by decide +kernel
theorem d5_4 : decode prog_11_method_10_code 4 = .ok (.areturn, 1) := by decide +kernel
theorem ef_rm5 (m : MethodId) (a : Addr) : entryFrame m #[(.ref a)] 1 = mkF m 0 #[.val (.ref a)] [] := by first | exact own_entry rfl | (simp [entryFrame, mkF, argsToLocals, Value.category]; done) | rfl
set_option maxRecDepth 65536 in
set_option maxHeartbeats 40000000 in
theorem rm5 (l : Launch) (Z : State) (a0 : Array Value) (hw : ∀ d ∈ tables_1, d.before a0 Z = true) (a : Addr) (u : Value) (hu : u.isRef = true) (h0 : Heap) (n0 : Nat) (Z0 : n0 ≤ h0.size) (F : Fld Z h0 a "com/example/seatwright/seatwright/engine/Decision" "seat" "Lcom/example/seatwright/seatwright/engine/Seat;" u) :
    Pays l (⟨"com/example/seatwright/seatwright/engine/Decision", "seat", "()Lcom/example/seatwright/seatwright/engine/Seat;"⟩ : MethodName) prog_11_method_10_code 1 (some (.object "com/example/seatwright/seatwright/engine/Seat")) ({ frames := 0, cells := 0, slots := 0, locals := 0 } : Room) Z #[(.ref a)] h0 (fun v h L => v = some u ∧ Fr n0 L ∧ h = h0) := by
  refine Pays.of (plainFor_of_name pn_com_example_seatwright_seatwright_engine_Decision) ?_
  intro pP eE sS m below methM cC T hx hby hml hret hlk hZ hown hnm eT X
  replace hown : sS.vm.findClass "com/example/seatwright/seatwright/engine/Decision" = some m.cls := hown
  have N0 := Fr.nil n0
  refine Go.cast (ef_rm5 m a) ?_
  refine Go.st (S' := T.setTop (mkF m 1 #[.val (.ref a)] [(.ref a)])) (fun t kt => XS.aloadN X.here hx rfl (hb hby d5_0) rfl rfl kt) ?_
  obtain ⟨T1, X1, e1, st1⟩ := getF X hx hZ hown (host := "") (Or.inl (hw _ (List.mem_of_getElem? (i := 21) rfl))) Via.refl eT F (g := (mkF m 1 #[.val (.ref a)] [(.ref a)])) rfl rfl (hb hby d5_1)
  refine Go.st (S' := T1.setTop (mkF m 4 #[.val (.ref a)] [u])) (fun t kt => st1 t kt) ?_
  exact ret_a X1 hx hlk hret rfl hu (hb hby d5_4) (by decide) (by decide) (⟨rfl, N0, e1⟩)
theorem d6_0 : decode prog_11_method_11_code 0 = .ok (.aload_n 0, 1) := by decide +kernel
theorem d6_1 : decode prog_11_method_11_code 1 = .ok (.getfield 17, 3) := by decide +kernel
theorem d6_4 : decode prog_11_method_11_code 4 = .ok (.areturn, 1) := by decide +kernel
theorem ef_rm6 (m : MethodId) (a : Addr) : entryFrame m #[(.ref a)] 1 = mkF m 0 #[.val (.ref a)] [] := by first | exact own_entry rfl | (simp [entryFrame, mkF, argsToLocals, Value.category]; done) | rfl
set_option maxRecDepth 65536 in
set_option maxHeartbeats 40000000 in
theorem rm6 (l : Launch) (Z : State) (a0 : Array Value) (hw : ∀ d ∈ tables_1, d.before a0 Z = true) (a : Addr) (u : Value) (hu : u.isRef = true) (h0 : Heap) (n0 : Nat) (Z0 : n0 ≤ h0.size) (F : Fld Z h0 a "com/example/seatwright/seatwright/engine/Decision" "reason" "Lcom/example/seatwright/seatwright/engine/Reason;" u) :
    Pays l (⟨"com/example/seatwright/seatwright/engine/Decision", "reason", "()Lcom/example/seatwright/seatwright/engine/Reason;"⟩ : MethodName) prog_11_method_11_code 1 (some (.object "com/example/seatwright/seatwright/engine/Reason")) ({ frames := 0, cells := 0, slots := 0, locals := 0 } : Room) Z #[(.ref a)] h0 (fun v h L => v = some u ∧ Fr n0 L ∧ h = h0) := by
  refine Pays.of (plainFor_of_name pn_com_example_seatwright_seatwright_engine_Decision) ?_
  intro pP eE sS m below methM cC T hx hby hml hret hlk hZ hown hnm eT X
  replace hown : sS.vm.findClass "com/example/seatwright/seatwright/engine/Decision" = some m.cls := hown
  have N0 := Fr.nil n0
  refine Go.cast (ef_rm6 m a) ?_
  refine Go.st (S' := T.setTop (mkF m 1 #[.val (.ref a)] [(.ref a)])) (fun t kt => XS.aloadN X.here hx rfl (hb hby d6_0) rfl rfl kt) ?_
  obtain ⟨T1, X1, e1, st1⟩ := getF X hx hZ hown (host := "") (Or.inl (hw _ (List.mem_of_getElem? (i := 23) rfl))) Via.refl eT F (g := (mkF m 1 #[.val (.ref a)] [(.ref a)])) rfl rfl (hb hby d6_1)
  refine Go.st (S' := T1.setTop (mkF m 4 #[.val (.ref a)] [u])) (fun t kt => st1 t kt) ?_
  exact ret_a X1 hx hlk hret rfl hu (hb hby d6_4) (by decide) (by decide) (⟨rfl, N0, e1⟩)
theorem d7_0 : decode prog_11_method_12_code 0 = .ok (.aload_n 0, 1) := by decide +kernel
theorem d7_1 : decode prog_11_method_12_code 1 = .ok (.getfield 21, 3) := by decide +kernel
theorem d7_4 : decode prog_11_method_12_code 4 = .ok (.areturn, 1) := by decide +kernel
theorem ef_rm7 (m : MethodId) (a : Addr) : entryFrame m #[(.ref a)] 1 = mkF m 0 #[.val (.ref a)] [] := by first | exact own_entry rfl | (simp [entryFrame, mkF, argsToLocals, Value.category]; done) | rfl
set_option maxRecDepth 65536 in
set_option maxHeartbeats 40000000 in
theorem rm7 (l : Launch) (Z : State) (a0 : Array Value) (hw : ∀ d ∈ tables_1, d.before a0 Z = true) (a : Addr) (u : Value) (hu : u.isRef = true) (h0 : Heap) (n0 : Nat) (Z0 : n0 ≤ h0.size) (F : Fld Z h0 a "com/example/seatwright/seatwright/engine/Decision" "unit" "Ljava/lang/String;" u) :
    Pays l (⟨"com/example/seatwright/seatwright/engine/Decision", "unit", "()Ljava/lang/String;"⟩ : MethodName) prog_11_method_12_code 1 (some (.object "java/lang/String")) ({ frames := 0, cells := 0, slots := 0, locals := 0 } : Room) Z #[(.ref a)] h0 (fun v h L => v = some u ∧ Fr n0 L ∧ h = h0) := by
  refine Pays.of (plainFor_of_name pn_com_example_seatwright_seatwright_engine_Decision) ?_
  intro pP eE sS m below methM cC T hx hby hml hret hlk hZ hown hnm eT X
  replace hown : sS.vm.findClass "com/example/seatwright/seatwright/engine/Decision" = some m.cls := hown
  have N0 := Fr.nil n0
  refine Go.cast (ef_rm7 m a) ?_
  refine Go.st (S' := T.setTop (mkF m 1 #[.val (.ref a)] [(.ref a)])) (fun t kt => XS.aloadN X.here hx rfl (hb hby d7_0) rfl rfl kt) ?_
  obtain ⟨T1, X1, e1, st1⟩ := getF X hx hZ hown (host := "") (Or.inl (hw _ (List.mem_of_getElem? (i := 25) rfl))) Via.refl eT F (g := (mkF m 1 #[.val (.ref a)] [(.ref a)])) rfl rfl (hb hby d7_1)
  refine Go.st (S' := T1.setTop (mkF m 4 #[.val (.ref a)] [u])) (fun t kt => st1 t kt) ?_
  exact ret_a X1 hx hlk hret rfl hu (hb hby d7_4) (by decide) (by decide) (⟨rfl, N0, e1⟩)
theorem d8_0 : decode prog_11_method_13_code 0 = .ok (.aload_n 0, 1) := by decide +kernel
theorem d8_1 : decode prog_11_method_13_code 1 = .ok (.getfield 25, 3) := by decide +kernel
theorem d8_4 : decode prog_11_method_13_code 4 = .ok (.areturn, 1) := by decide +kernel
theorem ef_rm8 (m : MethodId) (a : Addr) : entryFrame m #[(.ref a)] 1 = mkF m 0 #[.val (.ref a)] [] := by first | exact own_entry rfl | (simp [entryFrame, mkF, argsToLocals, Value.category]; done) | rfl
set_option maxRecDepth 65536 in
set_option maxHeartbeats 40000000 in
theorem rm8 (l : Launch) (Z : State) (a0 : Array Value) (hw : ∀ d ∈ tables_1, d.before a0 Z = true) (a : Addr) (u : Value) (hu : u.isRef = true) (h0 : Heap) (n0 : Nat) (Z0 : n0 ≤ h0.size) (F : Fld Z h0 a "com/example/seatwright/seatwright/engine/Decision" "license" "Ljava/lang/String;" u) :
    Pays l (⟨"com/example/seatwright/seatwright/engine/Decision", "license", "()Ljava/lang/String;"⟩ : MethodName) prog_11_method_13_code 1 (some (.object "java/lang/String")) ({ frames := 0, cells := 0, slots := 0, locals := 0 } : Room) Z #[(.ref a)] h0 (fun v h L => v = some u ∧ Fr n0 L ∧ h = h0) := by
  refine Pays.of (plainFor_of_name pn_com_example_seatwright_seatwright_engine_Decision) ?_
  intro pP eE sS m below methM cC T hx hby hml hret hlk hZ hown hnm eT X
  replace hown : sS.vm.findClass "com/example/seatwright/seatwright/engine/Decision" = some m.cls := hown
  have N0 := Fr.nil n0
  refine Go.cast (ef_rm8 m a) ?_
  refine Go.st (S' := T.setTop (mkF m 1 #[.val (.ref a)] [(.ref a)])) (fun t kt => XS.aloadN X.here hx rfl (hb hby d8_0) rfl rfl kt) ?_
  obtain ⟨T1, X1, e1, st1⟩ := getF X hx hZ hown (host := "") (Or.inl (hw _ (List.mem_of_getElem? (i := 27) rfl))) Via.refl eT F (g := (mkF m 1 #[.val (.ref a)] [(.ref a)])) rfl rfl (hb hby d8_1)
  refine Go.st (S' := T1.setTop (mkF m 4 #[.val (.ref a)] [u])) (fun t kt => st1 t kt) ?_
  exact ret_a X1 hx hlk hret rfl hu (hb hby d8_4) (by decide) (by decide) (⟨rfl, N0, e1⟩)
theorem d9_0 : decode prog_11_method_14_code 0 = .ok (.aload_n 0, 1) := by decide +kernel
theorem d9_1 : decode prog_11_method_14_code 1 = .ok (.getfield 28, 3) := by decide +kernel
theorem d9_4 : decode prog_11_method_14_code 4 = .ok (.areturn, 1) := by decide +kernel
theorem ef_rm9 (m : MethodId) (a : Addr) : entryFrame m #[(.ref a)] 1 = mkF m 0 #[.val (.ref a)] [] := by first | exact own_entry rfl | (simp [entryFrame, mkF, argsToLocals, Value.category]; done) | rfl
set_option maxRecDepth 65536 in
set_option maxHeartbeats 40000000 in
theorem rm9 (l : Launch) (Z : State) (a0 : Array Value) (hw : ∀ d ∈ tables_1, d.before a0 Z = true) (a : Addr) (u : Value) (hu : u.isRef = true) (h0 : Heap) (n0 : Nat) (Z0 : n0 ≤ h0.size) (F : Fld Z h0 a "com/example/seatwright/seatwright/engine/Decision" "daily" "Ljava/lang/String;" u) :
    Pays l (⟨"com/example/seatwright/seatwright/engine/Decision", "daily", "()Ljava/lang/String;"⟩ : MethodName) prog_11_method_14_code 1 (some (.object "java/lang/String")) ({ frames := 0, cells := 0, slots := 0, locals := 0 } : Room) Z #[(.ref a)] h0 (fun v h L => v = some u ∧ Fr n0 L ∧ h = h0) := by
  refine Pays.of (plainFor_of_name pn_com_example_seatwright_seatwright_engine_Decision) ?_
  intro pP eE sS m below methM cC T hx hby hml hret hlk hZ hown hnm eT X
  replace hown : sS.vm.findClass "com/example/seatwright/seatwright/engine/Decision" = some m.cls := hown
  have N0 := Fr.nil n0
  refine Go.cast (ef_rm9 m a) ?_
  refine Go.st (S' := T.setTop (mkF m 1 #[.val (.ref a)] [(.ref a)])) (fun t kt => XS.aloadN X.here hx rfl (hb hby d9_0) rfl rfl kt) ?_
  obtain ⟨T1, X1, e1, st1⟩ := getF X hx hZ hown (host := "") (Or.inl (hw _ (List.mem_of_getElem? (i := 29) rfl))) Via.refl eT F (g := (mkF m 1 #[.val (.ref a)] [(.ref a)])) rfl rfl (hb hby d9_1)
  refine Go.st (S' := T1.setTop (mkF m 4 #[.val (.ref a)] [u])) (fun t kt => st1 t kt) ?_
  exact ret_a X1 hx hlk hret rfl hu (hb hby d9_4) (by decide) (by decide) (⟨rfl, N0, e1⟩)
theorem d10_0 : decode prog_11_method_15_code 0 = .ok (.aload_n 0, 1) := by decide +kernel
theorem d10_1 : decode prog_11_method_15_code 1 = .ok (.getfield 31, 3) := by decide +kernel
theorem d10_4 : decode prog_11_method_15_code 4 = .ok (.areturn, 1) := by decide +kernel
theorem ef_rm10 (m : MethodId) (a : Addr) : entryFrame m #[(.ref a)] 1 = mkF m 0 #[.val (.ref a)] [] := by first | exact own_entry rfl | (simp [entryFrame, mkF, argsToLocals, Value.category]; done) | rfl
set_option maxRecDepth 65536 in
set_option maxHeartbeats 40000000 in
theorem rm10 (l : Launch) (Z : State) (a0 : Array Value) (hw : ∀ d ∈ tables_1, d.before a0 Z = true) (a : Addr) (u : Value) (hu : u.isRef = true) (h0 : Heap) (n0 : Nat) (Z0 : n0 ≤ h0.size) (F : Fld Z h0 a "com/example/seatwright/seatwright/engine/Decision" "named" "Ljava/lang/String;" u) :
    Pays l (⟨"com/example/seatwright/seatwright/engine/Decision", "named", "()Ljava/lang/String;"⟩ : MethodName) prog_11_method_15_code 1 (some (.object "java/lang/String")) ({ frames := 0, cells := 0, slots := 0, locals := 0 } : Room) Z #[(.ref a)] h0 (fun v h L => v = some u ∧ Fr n0 L ∧ h = h0) := by
  refine Pays.of (plainFor_of_name pn_com_example_seatwright_seatwright_engine_Decision) ?_
  intro pP eE sS m below methM cC T hx hby hml hret hlk hZ hown hnm eT X
  replace hown : sS.vm.findClass "com/example/seatwright/seatwright/engine/Decision" = some m.cls := hown
  have N0 := Fr.nil n0
  refine Go.cast (ef_rm10 m a) ?_
  refine Go.st (S' := T.setTop (mkF m 1 #[.val (.ref a)] [(.ref a)])) (fun t kt => XS.aloadN X.here hx rfl (hb hby d10_0) rfl rfl kt) ?_
  obtain ⟨T1, X1, e1, st1⟩ := getF X hx hZ hown (host := "") (Or.inl (hw _ (List.mem_of_getElem? (i := 31) rfl))) Via.refl eT F (g := (mkF m 1 #[.val (.ref a)] [(.ref a)])) rfl rfl (hb hby d10_1)
  refine Go.st (S' := T1.setTop (mkF m 4 #[.val (.ref a)] [u])) (fun t kt => st1 t kt) ?_
  exact ret_a X1 hx hlk hret rfl hu (hb hby d10_4) (by decide) (by decide) (⟨rfl, N0, e1⟩)
theorem pd__I_Lcom_example_seatwright_seatwright_engine_Decision_Outcome_ : parseMethodDescriptor "(I)Lcom/example/seatwright/seatwright/engine/Decision$Outcome;" = some ⟨[.int], some (.object "com/example/seatwright/seatwright/engine/Decision$Outcome")⟩ := by decide +kernel
theorem pd__Lcom_example_seatwright_seatwright_engine_Decision_Outcome__Lcom_example_seatwright_seatwright_engine_Decision_ : parseMethodDescriptor "(Lcom/example/seatwright/seatwright/engine/Decision$Outcome;)Lcom/example/seatwright/seatwright/engine/Decision;" = some ⟨[(.object "com/example/seatwright/seatwright/engine/Decision$Outcome")], some (.object "com/example/seatwright/seatwright/engine/Decision")⟩ := by decide +kernel
theorem pd___Lcom_example_seatwright_seatwright_engine_Decision_Outcome_ : parseMethodDescriptor "()Lcom/example/seatwright/seatwright/engine/Decision$Outcome;" = some ⟨[], some (.object "com/example/seatwright/seatwright/engine/Decision$Outcome")⟩ := by decide +kernel
theorem pd___Lcom_example_seatwright_seatwright_engine_Seat_ : parseMethodDescriptor "()Lcom/example/seatwright/seatwright/engine/Seat;" = some ⟨[], some (.object "com/example/seatwright/seatwright/engine/Seat")⟩ := by decide +kernel
theorem pd___Lcom_example_seatwright_seatwright_engine_Reason_ : parseMethodDescriptor "()Lcom/example/seatwright/seatwright/engine/Reason;" = some ⟨[], some (.object "com/example/seatwright/seatwright/engine/Reason")⟩ := by decide +kernel
theorem pd___Ljava_lang_String_ : parseMethodDescriptor "()Ljava/lang/String;" = some ⟨[], some (.object "java/lang/String")⟩ := by decide +kernel
theorem ef_rm0 (m : MethodId) (p0 : Int32) : entryFrame m #[(.int p0)] maxLocals = mkF m 0 #[.val (.int p0), .unset, .unset] [] := by first | exact own_entry rfl | (simp [entryFrame, mkF, argsToLocals, Value.category, maxLocals]; done) | rfl
set_option maxRecDepth 65536 in
set_option maxHeartbeats 40000000 in
theorem rm0 (l : Launch) (Z : State) (a0 : Array Value) (hw : ∀ d ∈ tables_1, d.before a0 Z = true) (p0 : Int32) (h0 : Heap) (n0 : Nat) (Z0 : n0 ≤ h0.size) (aG aH aR aF : Addr) (S_aG : Sta Z h0 "com/example/seatwright/seatwright/engine/Decision$Outcome" "GRANTED" "Lcom/example/seatwright/seatwright/engine/Decision$Outcome;" (.ref aG)) (S_aH : Sta Z h0 "com/example/seatwright/seatwright/engine/Decision$Outcome" "HELD" "Lcom/example/seatwright/seatwright/engine/Decision$Outcome;" (.ref aH)) (S_aR : Sta Z h0 "com/example/seatwright/seatwright/engine/Decision$Outcome" "RELEASED" "Lcom/example/seatwright/seatwright/engine/Decision$Outcome;" (.ref aR)) (S_aF : Sta Z h0 "com/example/seatwright/seatwright/engine/Decision$Outcome" "REFUSED" "Lcom/example/seatwright/seatwright/engine/Decision$Outcome;" (.ref aF)) :
    Pays l x code maxLocals ret room_1 Z #[(.int p0)] h0 (fun v h L => v = some (.int 1) ∧ Fr n0 L) := by
  refine Pays.of (plainFor_of_name pn_com_example_seatwright_seatwright_engine_DecisionAssignmentPinLaw) ?_
  intro pP eE sS m below methM cC T hx hby hml hret hlk hZ hown hnm eT X
  replace hown : sS.vm.findClass "com/example/seatwright/seatwright/engine/DecisionAssignmentPinLaw" = some m.cls := hown
  have N0 := Fr.nil n0
  refine Go.cast (ef_rm0 m p0) ?_
  refine Go.st (S' := T.setTop (mkF m 1 #[.val (.int p0), .unset, .unset] [(.int p0)])) (fun t kt => XS.iloadN X.here hx rfl (hb hby at_0) rfl kt) ?_
  refine Go.st (S' := T.setTop (mkF m 2 #[.val (.int p0), .unset, .unset] [(.int (3 : Int32)), (.int p0)])) (fun t kt => XS.iconst X.here hx rfl (hb hby at_1) kt) ?_
  refine Go.st (S' := T.setTop (mkF m 3 #[.val (.int p0), .unset, .unset] [(.int (p0 &&& (3 : Int32)))])) (fun t kt => XS.iand X.here hx rfl (hb hby at_2) rfl kt) ?_
  obtain ⟨r, hr⟩ : ∃ r, (if (p0 &&& (3 : Int32)) = 0 then aG else if (p0 &&& (3 : Int32)) = 1 then aH else if (p0 &&& (3 : Int32)) = 2 then aR else aF) = r := ⟨_, rfl⟩
  refine Go.stat X hx hZ hown (hw _ (List.mem_of_getElem? (i := 0) rfl)) (hw _ (List.mem_of_getElem? (i := 1) rfl)) (hw _ (List.mem_of_getElem? (i := 2) rfl)) (hw _ (List.mem_of_getElem? (i := 3) rfl)) (by decide) (argsL := [(.int (p0 &&& (3 : Int32)))]) (rest := []) (rm1 l Z a0 hw (p0 &&& (3 : Int32)) aG aH aR aF r h0 n0 Z0 S_aG S_aH S_aR S_aF hr) eT rfl (by rw [hml]; rfl) pd__I_Lcom_example_seatwright_seatwright_engine_Decision_Outcome_ rfl (hb hby at_3) 0 (Nat.le_refl _) (by decide) (by decide) (by decide) (by decide) ?_
  intro v1 T1 L1 X1 hQ1
  obtain ⟨hv1, N1', e1⟩ := hQ1
  subst hv1
  have N1 := Fr.app N0 N1'
  show Go pP eE below _ (T1.setTop (mkF m 6 #[.val (.int p0), .unset, .unset] [(.ref r)]))
  refine Go.st (S' := T1.setTop (mkF m 7 #[.val (.int p0), .val (.ref r), .unset] [])) (fun t kt => XS.astoreN X1.here hx rfl (hb hby at_6) rfl rfl rfl kt) ?_
  refine Go.st (S' := T1.setTop (mkF m 8 #[.val (.int p0), .val (.ref r), .unset] [(.ref r)])) (fun t kt => XS.aloadN X1.here hx rfl (hb hby at_7) rfl rfl kt) ?_
  refine Go.stat X1 hx hZ hown (hw _ (List.mem_of_getElem? (i := 7) rfl)) (hw _ (List.mem_of_getElem? (i := 8) rfl)) (hw _ (List.mem_of_getElem? (i := 9) rfl)) (hw _ (List.mem_of_getElem? (i := 10) rfl)) (by decide) (argsL := [(.ref r)]) (rest := []) (rm3 l Z a0 hw r h0 n0 Z0) e1 rfl (by rw [hml]; rfl) pd__Lcom_example_seatwright_seatwright_engine_Decision_Outcome__Lcom_example_seatwright_seatwright_engine_Decision_ rfl (hb hby at_8) 0 (Nat.le_refl _) (by decide) (by decide) (by decide) (by decide) ?_
  intro v2 T2 L2 X2 hQ2
  obtain ⟨b2, hv2, N2', K2', y2_0, u2_0, f2_0, f2_1, f2_2, f2_3, f2_4, f2_5, f2_6, f2_7⟩ := hQ2
  subst hv2
  have N2 := Fr.app N1 N2'
  have Z2 : n0 ≤ T2.heap.size := Nat.le_trans Z0 K2'.1
  have eh2 : T2.heap = T2.heap := rfl
  show Go pP eE below _ (T2.setTop (mkF m 11 #[.val (.int p0), .val (.ref r), .unset] [(.ref b2)]))
  refine Go.st (S' := T2.setTop (mkF m 12 #[.val (.int p0), .val (.ref r), .val (.ref b2)] [])) (fun t kt => XS.astoreN X2.here hx rfl (hb hby at_11) rfl rfl rfl kt) ?_
  refine Go.st (S' := T2.setTop (mkF m 13 #[.val (.int p0), .val (.ref r), .val (.ref b2)] [(.ref b2)])) (fun t kt => XS.aloadN X2.here hx rfl (hb hby at_12) rfl rfl kt) ?_
  refine Go.st (S' := T2.setTop (mkF m 18 #[.val (.int p0), .val (.ref r), .val (.ref b2)] [])) (fun t kt => XT.ifnonnullYes X2.here hx rfl (pc0 := 13) (pc' := 18) rfl (hb hby at_13) rfl (by decide) (by decide) kt) ?_
  refine Go.st (S' := T2.setTop (mkF m 19 #[.val (.int p0), .val (.ref r), .val (.ref b2)] [(.ref b2)])) (fun t kt => XS.aloadN X2.here hx rfl (hb hby at_18) rfl rfl kt) ?_
  refine Go.virt X2 hx hZ hown (hw _ (List.mem_of_getElem? (i := 33) rfl)) (hw _ (List.mem_of_getElem? (i := 34) rfl)) (notFace_of_selects (mvT (args := #[]) hZ (hw _ (List.mem_of_getElem? (i := 36) rfl)))) (hw _ (List.mem_of_getElem? (i := 36) rfl)) (hw _ (List.mem_of_getElem? (i := 35) rfl)) (hw _ (List.mem_of_getElem? (i := 37) rfl)) (hw _ (List.mem_of_getElem? (i := 9) rfl)) (by decide) (b := b2) (argsL := []) (rest := []) (rm4 l Z a0 hw b2 (.ref r) rfl T2.heap n0 Z2 f2_1) eh2 f2_0 rfl (by rw [hml]; rfl) pd___Lcom_example_seatwright_seatwright_engine_Decision_Outcome_ rfl (hb hby at_19) 0 (Nat.le_refl _) (by decide) (by decide) (by decide) (by decide) ?_
  intro v3 T3 L3 X3 hQ3
  obtain ⟨hv3, N3', e3⟩ := hQ3
  subst hv3
  have N3 := Fr.app N2 N3'
  show Go pP eE below _ (T3.setTop (mkF m 22 #[.val (.int p0), .val (.ref r), .val (.ref b2)] [(.ref r)]))
  refine Go.st (S' := T3.setTop (mkF m 23 #[.val (.int p0), .val (.ref r), .val (.ref b2)] [(.ref r), (.ref r)])) (fun t kt => XS.aloadN X3.here hx rfl (hb hby at_22) rfl rfl kt) ?_
  refine Go.st (S' := T3.setTop (mkF m 26 #[.val (.int p0), .val (.ref r), .val (.ref b2)] [])) (fun t kt => XT.acmpNo X3.here hx rfl (hb hby at_23) rfl rfl rfl (XT.aa_ne_f rfl) kt) ?_
  refine Go.st (S' := T3.setTop (mkF m 27 #[.val (.int p0), .val (.ref r), .val (.ref b2)] [(.ref b2)])) (fun t kt => XS.aloadN X3.here hx rfl (hb hby at_26) rfl rfl kt) ?_
  refine Go.virt X3 hx hZ hown (hw _ (List.mem_of_getElem? (i := 38) rfl)) (hw _ (List.mem_of_getElem? (i := 39) rfl)) (notFace_of_selects (mvT (args := #[]) hZ (hw _ (List.mem_of_getElem? (i := 41) rfl)))) (hw _ (List.mem_of_getElem? (i := 41) rfl)) (hw _ (List.mem_of_getElem? (i := 40) rfl)) (hw _ (List.mem_of_getElem? (i := 42) rfl)) (hw _ (List.mem_of_getElem? (i := 9) rfl)) (by decide) (b := b2) (argsL := []) (rest := []) (rm5 l Z a0 hw b2 .null rfl T2.heap n0 Z2 f2_2) e3 f2_0 rfl (by rw [hml]; rfl) pd___Lcom_example_seatwright_seatwright_engine_Seat_ rfl (hb hby at_27) 0 (Nat.le_refl _) (by decide) (by decide) (by decide) (by decide) ?_
  intro v4 T4 L4 X4 hQ4
  obtain ⟨hv4, N4', e4⟩ := hQ4
  subst hv4
  have N4 := Fr.app N3 N4'
  show Go pP eE below _ (T4.setTop (mkF m 30 #[.val (.int p0), .val (.ref r), .val (.ref b2)] [.null]))
  refine Go.st (S' := T4.setTop (mkF m 33 #[.val (.int p0), .val (.ref r), .val (.ref b2)] [])) (fun t kt => XT.ifnonnullNo X4.here hx rfl (hb hby at_30) rfl kt) ?_
  refine Go.st (S' := T4.setTop (mkF m 34 #[.val (.int p0), .val (.ref r), .val (.ref b2)] [(.ref b2)])) (fun t kt => XS.aloadN X4.here hx rfl (hb hby at_33) rfl rfl kt) ?_
  refine Go.virt X4 hx hZ hown (hw _ (List.mem_of_getElem? (i := 43) rfl)) (hw _ (List.mem_of_getElem? (i := 44) rfl)) (notFace_of_selects (mvT (args := #[]) hZ (hw _ (List.mem_of_getElem? (i := 46) rfl)))) (hw _ (List.mem_of_getElem? (i := 46) rfl)) (hw _ (List.mem_of_getElem? (i := 45) rfl)) (hw _ (List.mem_of_getElem? (i := 47) rfl)) (hw _ (List.mem_of_getElem? (i := 9) rfl)) (by decide) (b := b2) (argsL := []) (rest := []) (rm6 l Z a0 hw b2 .null rfl T2.heap n0 Z2 f2_3) e4 f2_0 rfl (by rw [hml]; rfl) pd___Lcom_example_seatwright_seatwright_engine_Reason_ rfl (hb hby at_34) 0 (Nat.le_refl _) (by decide) (by decide) (by decide) (by decide) ?_
  intro v5 T5 L5 X5 hQ5
  obtain ⟨hv5, N5', e5⟩ := hQ5
  subst hv5
  have N5 := Fr.app N4 N5'
  show Go pP eE below _ (T5.setTop (mkF m 37 #[.val (.int p0), .val (.ref r), .val (.ref b2)] [.null]))
  refine Go.st (S' := T5.setTop (mkF m 40 #[.val (.int p0), .val (.ref r), .val (.ref b2)] [])) (fun t kt => XT.ifnonnullNo X5.here hx rfl (hb hby at_37) rfl kt) ?_
  refine Go.st (S' := T5.setTop (mkF m 41 #[.val (.int p0), .val (.ref r), .val (.ref b2)] [(.ref b2)])) (fun t kt => XS.aloadN X5.here hx rfl (hb hby at_40) rfl rfl kt) ?_
  refine Go.virt X5 hx hZ hown (hw _ (List.mem_of_getElem? (i := 48) rfl)) (hw _ (List.mem_of_getElem? (i := 49) rfl)) (notFace_of_selects (mvT (args := #[]) hZ (hw _ (List.mem_of_getElem? (i := 51) rfl)))) (hw _ (List.mem_of_getElem? (i := 51) rfl)) (hw _ (List.mem_of_getElem? (i := 50) rfl)) (hw _ (List.mem_of_getElem? (i := 52) rfl)) (hw _ (List.mem_of_getElem? (i := 9) rfl)) (by decide) (b := b2) (argsL := []) (rest := []) (rm7 l Z a0 hw b2 .null rfl T2.heap n0 Z2 f2_4) e5 f2_0 rfl (by rw [hml]; rfl) pd___Ljava_lang_String_ rfl (hb hby at_41) 0 (Nat.le_refl _) (by decide) (by decide) (by decide) (by decide) ?_
  intro v6 T6 L6 X6 hQ6
  obtain ⟨hv6, N6', e6⟩ := hQ6
  subst hv6
  have N6 := Fr.app N5 N6'
  show Go pP eE below _ (T6.setTop (mkF m 44 #[.val (.int p0), .val (.ref r), .val (.ref b2)] [.null]))
  refine Go.st (S' := T6.setTop (mkF m 47 #[.val (.int p0), .val (.ref r), .val (.ref b2)] [])) (fun t kt => XT.ifnonnullNo X6.here hx rfl (hb hby at_44) rfl kt) ?_
  refine Go.st (S' := T6.setTop (mkF m 48 #[.val (.int p0), .val (.ref r), .val (.ref b2)] [(.ref b2)])) (fun t kt => XS.aloadN X6.here hx rfl (hb hby at_47) rfl rfl kt) ?_
  refine Go.virt X6 hx hZ hown (hw _ (List.mem_of_getElem? (i := 53) rfl)) (hw _ (List.mem_of_getElem? (i := 54) rfl)) (notFace_of_selects (mvT (args := #[]) hZ (hw _ (List.mem_of_getElem? (i := 56) rfl)))) (hw _ (List.mem_of_getElem? (i := 56) rfl)) (hw _ (List.mem_of_getElem? (i := 55) rfl)) (hw _ (List.mem_of_getElem? (i := 57) rfl)) (hw _ (List.mem_of_getElem? (i := 9) rfl)) (by decide) (b := b2) (argsL := []) (rest := []) (rm8 l Z a0 hw b2 .null rfl T2.heap n0 Z2 f2_5) e6 f2_0 rfl (by rw [hml]; rfl) pd___Ljava_lang_String_ rfl (hb hby at_48) 0 (Nat.le_refl _) (by decide) (by decide) (by decide) (by decide) ?_
  intro v7 T7 L7 X7 hQ7
  obtain ⟨hv7, N7', e7⟩ := hQ7
  subst hv7
  have N7 := Fr.app N6 N7'
  show Go pP eE below _ (T7.setTop (mkF m 51 #[.val (.int p0), .val (.ref r), .val (.ref b2)] [.null]))
  refine Go.st (S' := T7.setTop (mkF m 54 #[.val (.int p0), .val (.ref r), .val (.ref b2)] [])) (fun t kt => XT.ifnonnullNo X7.here hx rfl (hb hby at_51) rfl kt) ?_
  refine Go.st (S' := T7.setTop (mkF m 55 #[.val (.int p0), .val (.ref r), .val (.ref b2)] [(.ref b2)])) (fun t kt => XS.aloadN X7.here hx rfl (hb hby at_54) rfl rfl kt) ?_
  refine Go.virt X7 hx hZ hown (hw _ (List.mem_of_getElem? (i := 58) rfl)) (hw _ (List.mem_of_getElem? (i := 59) rfl)) (notFace_of_selects (mvT (args := #[]) hZ (hw _ (List.mem_of_getElem? (i := 61) rfl)))) (hw _ (List.mem_of_getElem? (i := 61) rfl)) (hw _ (List.mem_of_getElem? (i := 60) rfl)) (hw _ (List.mem_of_getElem? (i := 62) rfl)) (hw _ (List.mem_of_getElem? (i := 9) rfl)) (by decide) (b := b2) (argsL := []) (rest := []) (rm9 l Z a0 hw b2 .null rfl T2.heap n0 Z2 f2_6) e7 f2_0 rfl (by rw [hml]; rfl) pd___Ljava_lang_String_ rfl (hb hby at_55) 0 (Nat.le_refl _) (by decide) (by decide) (by decide) (by decide) ?_
  intro v8 T8 L8 X8 hQ8
  obtain ⟨hv8, N8', e8⟩ := hQ8
  subst hv8
  have N8 := Fr.app N7 N8'
  show Go pP eE below _ (T8.setTop (mkF m 58 #[.val (.int p0), .val (.ref r), .val (.ref b2)] [.null]))
  refine Go.st (S' := T8.setTop (mkF m 61 #[.val (.int p0), .val (.ref r), .val (.ref b2)] [])) (fun t kt => XT.ifnonnullNo X8.here hx rfl (hb hby at_58) rfl kt) ?_
  refine Go.st (S' := T8.setTop (mkF m 62 #[.val (.int p0), .val (.ref r), .val (.ref b2)] [(.ref b2)])) (fun t kt => XS.aloadN X8.here hx rfl (hb hby at_61) rfl rfl kt) ?_
  refine Go.virt X8 hx hZ hown (hw _ (List.mem_of_getElem? (i := 63) rfl)) (hw _ (List.mem_of_getElem? (i := 64) rfl)) (notFace_of_selects (mvT (args := #[]) hZ (hw _ (List.mem_of_getElem? (i := 66) rfl)))) (hw _ (List.mem_of_getElem? (i := 66) rfl)) (hw _ (List.mem_of_getElem? (i := 65) rfl)) (hw _ (List.mem_of_getElem? (i := 67) rfl)) (hw _ (List.mem_of_getElem? (i := 9) rfl)) (by decide) (b := b2) (argsL := []) (rest := []) (rm10 l Z a0 hw b2 .null rfl T2.heap n0 Z2 f2_7) e8 f2_0 rfl (by rw [hml]; rfl) pd___Ljava_lang_String_ rfl (hb hby at_62) 0 (Nat.le_refl _) (by decide) (by decide) (by decide) (by decide) ?_
  intro v9 T9 L9 X9 hQ9
  obtain ⟨hv9, N9', e9⟩ := hQ9
  subst hv9
  have N9 := Fr.app N8 N9'
  show Go pP eE below _ (T9.setTop (mkF m 65 #[.val (.int p0), .val (.ref r), .val (.ref b2)] [.null]))
  refine Go.st (S' := T9.setTop (mkF m 68 #[.val (.int p0), .val (.ref r), .val (.ref b2)] [])) (fun t kt => XT.ifnonnullNo X9.here hx rfl (hb hby at_65) rfl kt) ?_
  refine Go.st (S' := T9.setTop (mkF m 69 #[.val (.int p0), .val (.ref r), .val (.ref b2)] [(.int (1 : Int32))])) (fun t kt => XS.iconst X9.here hx rfl (hb hby at_68) kt) ?_
  refine Go.st (S' := T9.setTop (mkF m 73 #[.val (.int p0), .val (.ref r), .val (.ref b2)] [(.int (1 : Int32))])) (fun t kt => XS.goto X9.here hx rfl (pc0 := 69) (pc' := 73) rfl (hb hby at_69) (by decide) (by decide) kt) ?_
  exact ret_b X9 hx hlk hret (hb hby at_73) (by decide) (by decide) (⟨rfl, N9⟩)
set_option maxRecDepth 65536 in
set_option maxHeartbeats 40000000 in
theorem comes_1 {Post : Tables → Env → Array Value → State → Outcome → State → Prop} (hpost : ∀ tb e args s v u, (limb_1_1.after args s (.returned v) u = true ∧ limb_1_2.after args s (.returned v) u = true ∧ True) → FrameEnd s (.returned v) u (Jvm.fieldLocs frame_1_writes args s ++ Jvm.arrayLocs frame_1_arrays args s ++ Jvm.staticLocs frame_1_statics s) 16 128 → Post tb e args s (.returned v) u) :
    ArmFor flags0 classFile x code maxLocals ret World_1 tables_1 room_1 Calls_1 rest_1 Pre_1 Post := by
  intro l hfl _ _ p e ha hc hk s m args below hf hA hF happ hP
  obtain ⟨hcalls, hrest, hpre⟩ := hP
  obtain ⟨-, -, -, hnamed, -, hinit0, -, hat⟩ := (Spec.applies_iff hf).mp happ
  obtain ⟨hg, hn⟩ := and_e (Cond.before_iff.mp (show (Jvm.Cond.and given_1 narrow_1).before args s = true from hpre))
  obtain ⟨hcount, hg0⟩ := and_e hg
  obtain ⟨w0, rfl⟩ : ∃ w0 : Value, args = #[w0] := by
    have hs : args.size = 1 := by simpa [Cond.value, given_1] using hcount
    obtain ⟨L⟩ := args
    match L, hs with
    | [w0], _ => exact ⟨w0, rfl⟩
  have hw := fun d (hd : d ∈ tables_1) => atoms_spec (ws := Jvm.Cond.code x code maxLocals ret :: tables_1) hat d (List.mem_cons_of_mem _ hd)
  have hfit : Fit s := fun {y c} hc i hi => by
    obtain ⟨ha, rfl⟩ := Array.getElem?_eq_some_iff.mp hc
    have q := List.all_eq_true.mp ((Array.all_eq_true_iff_forall_mem.mp hF) _ (Array.getElem_mem ha)) i (List.mem_range.mpr hi)
    simpa [Array.getElem?_eq_getElem hi] using q
  obtain ⟨i0, ei0⟩ := is_v hg0
  obtain rfl : w0 = (.int i0) := Option.some.inj ei0
  obtain ⟨n1, hn⟩ := and_e hn
  obtain ⟨n2, hn⟩ := and_e hn
  obtain ⟨n3, n4⟩ := and_e hn
  obtain ⟨aG, vaG⟩ := exa_v n1
  have SaG := Sta.start vaG (Or.inr ⟨(hw _ (List.mem_of_getElem? (i := 5) rfl)), (hw _ (List.mem_of_getElem? (i := 6) rfl))⟩)
  have EaG := Exa.start vaG n1
  obtain ⟨aF, vaF⟩ := exa_v n2
  have SaF := Sta.start vaF (Or.inr ⟨(hw _ (List.mem_of_getElem? (i := 5) rfl)), (hw _ (List.mem_of_getElem? (i := 69) rfl))⟩)
  have EaF := Exa.start vaF n2
  obtain ⟨aR, vaR⟩ := exa_v n3
  have SaR := Sta.start vaR (Or.inr ⟨(hw _ (List.mem_of_getElem? (i := 5) rfl)), (hw _ (List.mem_of_getElem? (i := 71) rfl))⟩)
  have EaR := Exa.start vaR n3
  obtain ⟨aH, vaH⟩ := exa_v n4
  have SaH := Sta.start vaH (Or.inr ⟨(hw _ (List.mem_of_getElem? (i := 5) rfl)), (hw _ (List.mem_of_getElem? (i := 73) rfl))⟩)
  have EaH := Exa.start vaH n4
  obtain ⟨n, o, h1, h2, h3, _, L, rfl, ⟨rfl, N⟩, hq⟩ := rm0 l s _ hw i0 s.heap s.heap.size (Nat.le_refl _) aG aH aR aF SaG SaH SaR SaF tables_1 p e ha hc hk s m _ below hf ((Spec.applies_iff_loose hf).mp happ).1 ⟨rfl, State.Warmed39.refl s, rfl⟩ trivial
  refine ⟨n, _, h1, h2, h3, hpost _ _ _ _ _ _ ⟨Cond.after_iff.mpr rfl, Cond.after_iff.mpr (eq_i res_at (Term.int_eval (1)) rfl), trivial⟩ ⟨hq.1, hq.2.1, (hq.2.2.sift fun y hy => Or.inr (N y hy)).mono (by decide) (by decide)⟩⟩
theorem main_1_1 : Claimed_1_1 := comes_1 fun _ _ _ _ _ _ h hF => ⟨h.1, hF⟩
theorem main_1_2 : Claimed_1_2 := comes_1 fun _ _ _ _ _ _ h hF => ⟨h.2.1, hF⟩
end Jvm.Pilot.@@N@@
namespace Jvm.Pilot.@@N@@
open Jvm Jvm.ClassFile Sem Op Lib Jvm.Free Jvm.Stand Jvm.Pilot.@@N@@.Jvm.D
/-! MADE BY PROGRAM (witnessworld.py) out of the Statement's table words and the real class files: 14 classes; the members and pool entries that the words name. The judged class is class 1, her method 2. -/
namespace start1
open Jvm.ClassFile
def u (s : String) : CpInfo := .utf8 (stringToUtf16 s)
/-- a pool by its gaps: so many unusable entries, then the entry; so many at the end -/
def gap : Nat → List CpInfo → List CpInfo
  | 0, r => r
  | n + 1, r => .unusable :: gap n r
def poolList (es : List (Nat × CpInfo)) (last : Nat) : List CpInfo := es.foldr (fun e r => gap e.1 (e.2 :: r)) (gap last [])
def pool (es : List (Nat × CpInfo)) (last : Nat) : Array CpInfo := ⟨poolList es last⟩
def fileOf (pool : Array CpInfo) (this : Nat) (attrs : Array Attribute := #[]) (ms : Array MethodInfo := #[]) (fl : Nat := 33) (sup : Nat := 0) (ifs : Array Nat := #[]) (fds : Array FieldInfo := #[]) : ClassFile where
  minorVersion := 0
  majorVersion := 65
  constantPool := pool
  accessFlags := fl
  thisClass := this
  superClass := sup
  interfaces := ifs
  fields := fds
  methods := ms
  attributes := attrs
def plain (name : String) (sup : Option ClassId) : Class where
  name := name
  kind := .ordinary
  loader := none
  accessFlags := 33
  super := sup
  interfaces := #[]
  cf := none
  fields := #[]
  methods := #[]
  instanceTypes := #[]
  staticTypes := #[]
  resolved := #[]
  callSites := []
  init := .initialized
  statics := none
  mirror := none

def pool0 : Array CpInfo := pool [(5, u "<init>"), (0, u "()V"), (1, .class_ 10), (1, u "java/lang/Object")] 113

def k0c0 : Code := { maxStack := 0, maxLocals := 1, code := object_method_1_code, exceptionTable := #[], attributes := #[] }
def k0m0 : Method := { name := "<init>", desc := "()V", sig := { parameters := [], returnType := none }, accessFlags := 1, code := some k0c0 }
/-- java/lang/Object -/
def k0 : Class := { plain "java/lang/Object" none with
  accessFlags := 33
  interfaces := #[]
  cf := some (fileOf pool0 8 #[] #[{ accessFlags := 1, nameIndex := 5, descriptorIndex := 6, attributes := #[] }] 33 0 #[] #[])
  fields := #[]
  methods := #[k0m0]
  instanceTypes := #[]
  staticTypes := #[]
  resolved := Array.replicate 124 none
  statics := none }

def pool1 : Array CpInfo := pool [(2, .class_ 4), (1, u "java/lang/Object"), (0, u "<init>"), (0, u "()V"), (0, .fieldref 8 9), (0, .class_ 10), (0, .nameAndType 11 12), (0, u "com/example/seatwright/seatwright/engine/Decision$Outcome"), (0, u "GRANTED"), (0, u "Lcom/example/seatwright/seatwright/engine/Decision$Outcome;"), (0, .fieldref 8 14), (0, .nameAndType 15 12), (0, u "HELD"), (0, .fieldref 8 17), (0, .nameAndType 18 12), (0, u "RELEASED"), (0, .fieldref 8 20), (0, .nameAndType 21 12), (0, u "REFUSED"), (0, .methodref 23 24), (0, .class_ 25), (0, .nameAndType 26 27), (0, u "com/example/seatwright/seatwright/engine/DecisionAssignmentPinLaw"), (0, u "pick"), (0, u "(I)Lcom/example/seatwright/seatwright/engine/Decision$Outcome;"), (0, .methodref 29 30), (0, .class_ 31), (0, .nameAndType 32 33), (0, u "com/example/seatwright/seatwright/engine/Decision"), (0, u "assignment"), (0, u "(Lcom/example/seatwright/seatwright/engine/Decision$Outcome;)Lcom/example/seatwright/seatwright/engine/Decision;"), (0, .methodref 29 35), (0, .nameAndType 36 37), (0, u "outcome"), (0, u "()Lcom/example/seatwright/seatwright/engine/Decision$Outcome;"), (0, .methodref 29 39), (0, .nameAndType 40 41), (0, u "seat"), (0, u "()Lcom/example/seatwright/seatwright/engine/Seat;"), (0, .methodref 29 43), (0, .nameAndType 44 45), (0, u "reason"), (0, u "()Lcom/example/seatwright/seatwright/engine/Reason;"), (0, .methodref 29 47), (0, .nameAndType 48 49), (0, u "unit"), (0, u "()Ljava/lang/String;"), (0, .methodref 29 51), (0, .nameAndType 52 49), (0, u "license"), (0, .methodref 29 54), (0, .nameAndType 55 49), (0, u "daily"), (0, .methodref 29 57), (0, .nameAndType 58 49), (0, u "named"), (3, u "law"), (0, u "(I)Z")] 4

def k1m0 : Method := { name := "<init>", desc := "()V", sig := { parameters := [], returnType := none }, accessFlags := 1, code := none }
def k1c1 : Code := { maxStack := 2, maxLocals := 1, code := method_2_code, exceptionTable := #[], attributes := #[] }
def k1m1 : Method := { name := "pick", desc := "(I)Lcom/example/seatwright/seatwright/engine/Decision$Outcome;", sig := { parameters := [.int], returnType := some (.object "com/example/seatwright/seatwright/engine/Decision$Outcome") }, accessFlags := 10, code := some k1c1 }
def k1c2 : Code := { maxStack := 2, maxLocals := 3, code := code, exceptionTable := #[], attributes := #[] }
def k1m2 : Method := { name := "law", desc := "(I)Z", sig := { parameters := [.int], returnType := some .boolean }, accessFlags := 9, code := some k1c2 }
/-- com/example/seatwright/seatwright/engine/DecisionAssignmentPinLaw -/
def k1 : Class := { plain "com/example/seatwright/seatwright/engine/DecisionAssignmentPinLaw" (some 0) with
  accessFlags := 49
  interfaces := #[]
  cf := some (fileOf pool1 23 #[] #[{ accessFlags := 1, nameIndex := 5, descriptorIndex := 6, attributes := #[] }, { accessFlags := 10, nameIndex := 26, descriptorIndex := 27, attributes := #[] }, { accessFlags := 9, nameIndex := 62, descriptorIndex := 63, attributes := #[] }] 49 2 #[] #[])
  fields := #[]
  methods := #[k1m0, k1m1, k1m2]
  instanceTypes := #[]
  staticTypes := #[]
  resolved := Array.replicate 68 none
  statics := none }

def pool2 : Array CpInfo := pool [(1, .class_ 2), (0, u "java/lang/constant/Constable"), (0, .class_ 4), (0, u "java/lang/Object")] 6

/-- java/lang/constant/Constable -/
def k2 : Class := { plain "java/lang/constant/Constable" (some 0) with
  accessFlags := 1537
  interfaces := #[]
  cf := some (fileOf pool2 1 #[] #[] 1537 3 #[] #[])
  fields := #[]
  methods := #[]
  instanceTypes := #[]
  staticTypes := #[]
  resolved := Array.replicate 11 none
  statics := none }

def pool3 : Array CpInfo := pool [(1, .class_ 2), (0, u "java/lang/Comparable"), (0, .class_ 4), (0, u "java/lang/Object")] 7

/-- java/lang/Comparable -/
def k3 : Class := { plain "java/lang/Comparable" (some 0) with
  accessFlags := 1537
  interfaces := #[]
  cf := some (fileOf pool3 1 #[] #[] 1537 3 #[] #[])
  fields := #[]
  methods := #[]
  instanceTypes := #[]
  staticTypes := #[]
  resolved := Array.replicate 12 none
  statics := none }

def pool4 : Array CpInfo := pool [(1, .class_ 2), (0, u "java/io/Serializable"), (0, .class_ 4), (0, u "java/lang/Object")] 2

/-- java/io/Serializable -/
def k4 : Class := { plain "java/io/Serializable" (some 0) with
  accessFlags := 1537
  interfaces := #[]
  cf := some (fileOf pool4 1 #[] #[] 1537 3 #[] #[])
  fields := #[]
  methods := #[]
  instanceTypes := #[]
  staticTypes := #[]
  resolved := Array.replicate 7 none
  statics := none }

def pool5 : Array CpInfo := pool [(2, .class_ 4), (1, u "java/lang/Enum"), (0, u "name"), (0, u "Ljava/lang/String;"), (2, u "ordinal"), (0, u "I"), (1, .class_ 14), (1, u "java/lang/Object"), (4, u "hash"), (86, .class_ 108), (1, u "java/lang/Enum$EnumDesc"), (2, .class_ 112), (0, u "java/lang/constant/Constable"), (0, .class_ 114), (0, u "java/lang/Comparable"), (0, .class_ 116), (0, u "java/io/Serializable")] 87

/-- java/lang/Enum -/
def k5 : Class := { plain "java/lang/Enum" (some 0) with
  accessFlags := 1057
  interfaces := #[2, 3, 4]
  cf := some (fileOf pool5 2 #[.nestMembers #[106]] #[] 1057 12 #[111, 113, 115] #[{ accessFlags := 18, nameIndex := 5, descriptorIndex := 6, attributes := #[] }, { accessFlags := 18, nameIndex := 9, descriptorIndex := 10, attributes := #[] }, { accessFlags := 2, nameIndex := 19, descriptorIndex := 10, attributes := #[] }])
  fields := #[{ name := "name", type := (.object "java/lang/String"), accessFlags := 18, slot := 0, constantValue := 0 }, { name := "ordinal", type := .int, accessFlags := 18, slot := 1, constantValue := 0 }, { name := "hash", type := .int, accessFlags := 2, slot := 2, constantValue := 0 }]
  methods := #[]
  instanceTypes := #[(.object "java/lang/String"), .int, .int]
  staticTypes := #[]
  resolved := Array.replicate 204 none
  statics := none }

def pool6 : Array CpInfo := pool [(9, .class_ 10), (0, u "com/example/seatwright/seatwright/model/WireNamed"), (10, .class_ 22), (0, u "java/lang/Object")] 9

/-- com/example/seatwright/seatwright/model/WireNamed -/
def k6 : Class := { plain "com/example/seatwright/seatwright/model/WireNamed" (some 0) with
  accessFlags := 1537
  interfaces := #[]
  cf := some (fileOf pool6 9 #[] #[] 1537 21 #[] #[])
  fields := #[]
  methods := #[]
  instanceTypes := #[]
  staticTypes := #[]
  resolved := Array.replicate 32 none
  statics := none }

def pool7 : Array CpInfo := pool [(1, .class_ 2), (0, u "com/example/seatwright/seatwright/engine/Decision$Outcome"), (2, u "GRANTED"), (0, u "Lcom/example/seatwright/seatwright/engine/Decision$Outcome;"), (2, u "HELD"), (2, u "RELEASED"), (2, u "REFUSED"), (2, u "$VALUES"), (0, u "[Lcom/example/seatwright/seatwright/engine/Decision$Outcome;"), (6, .class_ 28), (1, u "java/lang/Enum"), (8, u "wireName"), (0, u "Ljava/lang/String;"), (19, .class_ 59), (0, u "com/example/seatwright/seatwright/model/WireNamed"), (14, .class_ 75), (0, u "com/example/seatwright/seatwright/engine/Decision")] 2

/-- com/example/seatwright/seatwright/engine/Decision$Outcome -/
def k7 : Class := { plain "com/example/seatwright/seatwright/engine/Decision$Outcome" (some 5) with
  accessFlags := 16433
  interfaces := #[6]
  cf := some (fileOf pool7 1 #[.nestHost 74] #[] 16433 26 #[58] #[{ accessFlags := 16409, nameIndex := 5, descriptorIndex := 6, attributes := #[] }, { accessFlags := 16409, nameIndex := 9, descriptorIndex := 6, attributes := #[] }, { accessFlags := 16409, nameIndex := 12, descriptorIndex := 6, attributes := #[] }, { accessFlags := 16409, nameIndex := 15, descriptorIndex := 6, attributes := #[] }, { accessFlags := 18, nameIndex := 37, descriptorIndex := 38, attributes := #[] }, { accessFlags := 4122, nameIndex := 18, descriptorIndex := 19, attributes := #[] }])
  fields := #[{ name := "GRANTED", type := (.object "com/example/seatwright/seatwright/engine/Decision$Outcome"), accessFlags := 16409, slot := 0, constantValue := 0 }, { name := "HELD", type := (.object "com/example/seatwright/seatwright/engine/Decision$Outcome"), accessFlags := 16409, slot := 1, constantValue := 0 }, { name := "RELEASED", type := (.object "com/example/seatwright/seatwright/engine/Decision$Outcome"), accessFlags := 16409, slot := 2, constantValue := 0 }, { name := "REFUSED", type := (.object "com/example/seatwright/seatwright/engine/Decision$Outcome"), accessFlags := 16409, slot := 3, constantValue := 0 }, { name := "wireName", type := (.object "java/lang/String"), accessFlags := 18, slot := 3, constantValue := 0 }, { name := "$VALUES", type := (.array (.object "com/example/seatwright/seatwright/engine/Decision$Outcome")), accessFlags := 4122, slot := 4, constantValue := 0 }]
  methods := #[]
  instanceTypes := #[(.object "java/lang/String"), .int, .int, (.object "java/lang/String")]
  staticTypes := #[(.object "com/example/seatwright/seatwright/engine/Decision$Outcome"), (.object "com/example/seatwright/seatwright/engine/Decision$Outcome"), (.object "com/example/seatwright/seatwright/engine/Decision$Outcome"), (.object "com/example/seatwright/seatwright/engine/Decision$Outcome"), (.array (.object "com/example/seatwright/seatwright/engine/Decision$Outcome"))]
  resolved := Array.replicate 78 none
  statics := some 0 }

def pool8 : Array CpInfo := pool [(1, .methodref 2 3), (0, .class_ 4), (0, .nameAndType 5 6), (0, u "java/lang/Object"), (0, u "<init>"), (0, u "()V"), (0, .fieldref 8 9), (0, .class_ 10), (0, .nameAndType 11 12), (0, u "com/example/seatwright/seatwright/engine/Decision"), (0, u "outcome"), (0, u "Lcom/example/seatwright/seatwright/engine/Decision$Outcome;"), (0, .fieldref 8 14), (0, .nameAndType 15 16), (0, u "seat"), (0, u "Lcom/example/seatwright/seatwright/engine/Seat;"), (0, .fieldref 8 18), (0, .nameAndType 19 20), (0, u "reason"), (0, u "Lcom/example/seatwright/seatwright/engine/Reason;"), (0, .fieldref 8 22), (0, .nameAndType 23 24), (0, u "unit"), (0, u "Ljava/lang/String;"), (0, .fieldref 8 26), (0, .nameAndType 27 24), (0, u "license"), (0, .fieldref 8 29), (0, .nameAndType 30 24), (0, u "daily"), (0, .fieldref 8 32), (0, .nameAndType 33 24), (0, u "named"), (1, .class_ 37), (1, u "com/example/seatwright/seatwright/engine/Decision$Outcome"), (5, u "()Ljava/lang/String;"), (0, .methodref 8 45), (0, .nameAndType 5 46), (0, u "(Lcom/example/seatwright/seatwright/engine/Decision$Outcome;Lcom/example/seatwright/seatwright/engine/Seat;Lcom/example/seatwright/seatwright/engine/Reason;Ljava/lang/String;Ljava/lang/String;Ljava/lang/String;Ljava/lang/String;)V"), (17, u "assignment"), (0, u "(Lcom/example/seatwright/seatwright/engine/Decision$Outcome;)Lcom/example/seatwright/seatwright/engine/Decision;"), (4, u "()Lcom/example/seatwright/seatwright/engine/Decision$Outcome;"), (0, u "()Lcom/example/seatwright/seatwright/engine/Seat;"), (0, u "()Lcom/example/seatwright/seatwright/engine/Reason;")] 5

def k8c0 : Code := { maxStack := 2, maxLocals := 8, code := prog_11_method_1_code, exceptionTable := #[], attributes := #[] }
def k8m0 : Method := { name := "<init>", desc := "(Lcom/example/seatwright/seatwright/engine/Decision$Outcome;Lcom/example/seatwright/seatwright/engine/Seat;Lcom/example/seatwright/seatwright/engine/Reason;Ljava/lang/String;Ljava/lang/String;Ljava/lang/String;Ljava/lang/String;)V", sig := { parameters := [(.object "com/example/seatwright/seatwright/engine/Decision$Outcome"), (.object "com/example/seatwright/seatwright/engine/Seat"), (.object "com/example/seatwright/seatwright/engine/Reason"), (.object "java/lang/String"), (.object "java/lang/String"), (.object "java/lang/String"), (.object "java/lang/String")], returnType := none }, accessFlags := 2, code := some k8c0 }
def k8c1 : Code := { maxStack := 9, maxLocals := 1, code := prog_11_method_6_code, exceptionTable := #[], attributes := #[] }
def k8m1 : Method := { name := "assignment", desc := "(Lcom/example/seatwright/seatwright/engine/Decision$Outcome;)Lcom/example/seatwright/seatwright/engine/Decision;", sig := { parameters := [(.object "com/example/seatwright/seatwright/engine/Decision$Outcome")], returnType := some (.object "com/example/seatwright/seatwright/engine/Decision") }, accessFlags := 8, code := some k8c1 }
def k8c2 : Code := { maxStack := 1, maxLocals := 1, code := prog_11_method_9_code, exceptionTable := #[], attributes := #[] }
def k8m2 : Method := { name := "outcome", desc := "()Lcom/example/seatwright/seatwright/engine/Decision$Outcome;", sig := { parameters := [], returnType := some (.object "com/example/seatwright/seatwright/engine/Decision$Outcome") }, accessFlags := 1, code := some k8c2 }
def k8c3 : Code := { maxStack := 1, maxLocals := 1, code := prog_11_method_10_code, exceptionTable := #[], attributes := #[] }
def k8m3 : Method := { name := "seat", desc := "()Lcom/example/seatwright/seatwright/engine/Seat;", sig := { parameters := [], returnType := some (.object "com/example/seatwright/seatwright/engine/Seat") }, accessFlags := 1, code := some k8c3 }
def k8c4 : Code := { maxStack := 1, maxLocals := 1, code := prog_11_method_11_code, exceptionTable := #[], attributes := #[] }
def k8m4 : Method := { name := "reason", desc := "()Lcom/example/seatwright/seatwright/engine/Reason;", sig := { parameters := [], returnType := some (.object "com/example/seatwright/seatwright/engine/Reason") }, accessFlags := 1, code := some k8c4 }
def k8c5 : Code := { maxStack := 1, maxLocals := 1, code := prog_11_method_12_code, exceptionTable := #[], attributes := #[] }
def k8m5 : Method := { name := "unit", desc := "()Ljava/lang/String;", sig := { parameters := [], returnType := some (.object "java/lang/String") }, accessFlags := 1, code := some k8c5 }
def k8c6 : Code := { maxStack := 1, maxLocals := 1, code := prog_11_method_13_code, exceptionTable := #[], attributes := #[] }
def k8m6 : Method := { name := "license", desc := "()Ljava/lang/String;", sig := { parameters := [], returnType := some (.object "java/lang/String") }, accessFlags := 1, code := some k8c6 }
def k8c7 : Code := { maxStack := 1, maxLocals := 1, code := prog_11_method_14_code, exceptionTable := #[], attributes := #[] }
def k8m7 : Method := { name := "daily", desc := "()Ljava/lang/String;", sig := { parameters := [], returnType := some (.object "java/lang/String") }, accessFlags := 1, code := some k8c7 }
def k8c8 : Code := { maxStack := 1, maxLocals := 1, code := prog_11_method_15_code, exceptionTable := #[], attributes := #[] }
def k8m8 : Method := { name := "named", desc := "()Ljava/lang/String;", sig := { parameters := [], returnType := some (.object "java/lang/String") }, accessFlags := 1, code := some k8c8 }
/-- com/example/seatwright/seatwright/engine/Decision -/
def k8 : Class := { plain "com/example/seatwright/seatwright/engine/Decision" (some 0) with
  accessFlags := 33
  interfaces := #[]
  cf := some (fileOf pool8 8 #[.nestMembers #[35]] #[{ accessFlags := 2, nameIndex := 5, descriptorIndex := 46, attributes := #[] }, { accessFlags := 8, nameIndex := 64, descriptorIndex := 65, attributes := #[] }, { accessFlags := 1, nameIndex := 11, descriptorIndex := 70, attributes := #[] }, { accessFlags := 1, nameIndex := 15, descriptorIndex := 71, attributes := #[] }, { accessFlags := 1, nameIndex := 19, descriptorIndex := 72, attributes := #[] }, { accessFlags := 1, nameIndex := 23, descriptorIndex := 43, attributes := #[] }, { accessFlags := 1, nameIndex := 27, descriptorIndex := 43, attributes := #[] }, { accessFlags := 1, nameIndex := 30, descriptorIndex := 43, attributes := #[] }, { accessFlags := 1, nameIndex := 33, descriptorIndex := 43, attributes := #[] }] 33 2 #[] #[{ accessFlags := 18, nameIndex := 11, descriptorIndex := 12, attributes := #[] }, { accessFlags := 18, nameIndex := 15, descriptorIndex := 16, attributes := #[] }, { accessFlags := 18, nameIndex := 19, descriptorIndex := 20, attributes := #[] }, { accessFlags := 18, nameIndex := 23, descriptorIndex := 24, attributes := #[] }, { accessFlags := 18, nameIndex := 27, descriptorIndex := 24, attributes := #[] }, { accessFlags := 18, nameIndex := 30, descriptorIndex := 24, attributes := #[] }, { accessFlags := 18, nameIndex := 33, descriptorIndex := 24, attributes := #[] }])
  fields := #[{ name := "outcome", type := (.object "com/example/seatwright/seatwright/engine/Decision$Outcome"), accessFlags := 18, slot := 0, constantValue := 0 }, { name := "seat", type := (.object "com/example/seatwright/seatwright/engine/Seat"), accessFlags := 18, slot := 1, constantValue := 0 }, { name := "reason", type := (.object "com/example/seatwright/seatwright/engine/Reason"), accessFlags := 18, slot := 2, constantValue := 0 }, { name := "unit", type := (.object "java/lang/String"), accessFlags := 18, slot := 3, constantValue := 0 }, { name := "license", type := (.object "java/lang/String"), accessFlags := 18, slot := 4, constantValue := 0 }, { name := "daily", type := (.object "java/lang/String"), accessFlags := 18, slot := 5, constantValue := 0 }, { name := "named", type := (.object "java/lang/String"), accessFlags := 18, slot := 6, constantValue := 0 }]
  methods := #[k8m0, k8m1, k8m2, k8m3, k8m4, k8m5, k8m6, k8m7, k8m8]
  instanceTypes := #[(.object "com/example/seatwright/seatwright/engine/Decision$Outcome"), (.object "com/example/seatwright/seatwright/engine/Seat"), (.object "com/example/seatwright/seatwright/engine/Reason"), (.object "java/lang/String"), (.object "java/lang/String"), (.object "java/lang/String"), (.object "java/lang/String")]
  staticTypes := #[]
  resolved := Array.replicate 78 none
  statics := none }

def pool9 : Array CpInfo := pool [(1, u "java/lang/Cloneable"), (0, .class_ 1), (0, u "java/lang/Object"), (0, .class_ 3)] 3

/-- java/lang/Cloneable -/
def k9 : Class := { plain "java/lang/Cloneable" (some 0) with
  accessFlags := 1537
  interfaces := #[]
  cf := some (fileOf pool9 2 #[] #[] 1537 4 #[] #[])
  fields := #[]
  methods := #[]
  instanceTypes := #[]
  staticTypes := #[]
  resolved := Array.replicate 8 none
  statics := none }

/-- the primitive byte -/
def k10 : Class := { plain "byte" none with kind := .primitive 'B', accessFlags := 0x411 }
/-- [B -/
def k11 : Class := { plain "[B" (some 0) with kind := .array 10 .byte, interfaces := #[9, 4], accessFlags := 1041 }

/-- the primitive int -/
def k12 : Class := { plain "int" none with kind := .primitive 'I', accessFlags := 0x411 }
/-- [I -/
def k13 : Class := { plain "[I" (some 0) with kind := .array 12 .int, interfaces := #[9, 4], accessFlags := 1041 }

def heap : Heap := #[{ cls := 7, slots := #[.ref 1, .ref 2, .ref 3, .ref 4, .null], vm := .statics 7 },
  { cls := 7, slots := #[.null, .int 0, .int 0, .null], vm := .none },
  { cls := 7, slots := #[.null, .int 1, .int 0, .null], vm := .none },
  { cls := 7, slots := #[.null, .int 2, .int 0, .null], vm := .none },
  { cls := 7, slots := #[.null, .int 3, .int 0, .null], vm := .none }]
def classes : Array Class := #[k0, k1, k2, k3, k4, k5, k6, k7, k8, k9, k10, k11, k12, k13]
def interned : List (Array UInt16 × Addr) := []
def slotsUsed : Nat := 21
def theMethod : MethodId := ⟨1, 2⟩
def args0 : Array Value := #[.int 5]
def aboutOver (below : List Frame) : State where
  vm := { classes := classes, interned := interned.toArray }
  heap := heap
  slotsUsed := slotsUsed
  threads := #[{ frames := .invoking theMethod args0 :: below }]
def below0 : List Frame := [.native { method := ⟨0, 0⟩, args := #[] }]
def about1 : State := aboutOver below0
def p0 : Program := .bare "" "" ""
def e0 : Env := launch0.env 0 0 0
theorem w_frames : about1.frames = Frame.invoking theMethod args0 :: below0 := rfl
set_option maxRecDepth 65536 in
theorem w_args : argsFit about1.vm theMethod args0 = true := by decide +kernel
set_option maxRecDepth 65536 in
theorem w_heap : heapFits about1 = true := by decide +kernel
set_option maxRecDepth 65536 in
theorem w_runnable : about1.curStatus? = some .runnable := by decide +kernel
set_option maxRecDepth 65536 in
theorem w_alone : about1.alone = true := by decide +kernel
set_option maxRecDepth 65536 in
theorem w_named : about1.methodNamed? x = some theMethod := by decide +kernel
set_option maxRecDepth 65536 in
theorem w_hears : about1.hears theMethod below0 = true := by decide +kernel
set_option maxRecDepth 65536 in
theorem w_ripe : about1.ripe theMethod args0 below0 = true := by decide +kernel
theorem w_running : about1.status = .running := rfl
set_option maxRecDepth 65536 in
theorem w_room : about1.hasRoom e0.platform room_1 = true :=
  launch0.hasRoom_least _ room_1 (by decide +kernel) (by decide +kernel) (by decide +kernel) (by decide +kernel) (by decide +kernel) (by decide +kernel)
theorem allAtoms_all (ts : List Jvm.Cond) (a : Array Jvm.Value) (st : Jvm.State) : (allAtoms ts).before a st = ts.all (fun c => c.before a st) := by
  induction ts with
  | nil => rfl
  | cons c t ih =>
    show (Jvm.Cond.and c (allAtoms t)).before a st = _
    rw [Jvm.Cond.before_and, ih, List.all_cons]
def words1 : List Jvm.Cond := Jvm.Cond.code x code maxLocals ret :: tables_1
/-- a 'code' word, met by the world's own term for the bytes: nothing is compared byte by byte -/
theorem code_word {y : MethodName} {bytes : ByteArray} {mx : Nat} {rt : Option FieldType} {a : Array Value} {s : State} {m : MethodId} {meth : Method} {c : Code} (h1 : s.methodNamed? y = some m) (h2 : s.vm.method? m = some meth) (h3 : meth.code = some c) (h4 : c.code = bytes)
    (h5 : (c.maxLocals == mx && c.exceptionTable.isEmpty && decide (c.maxStack ≤ mostOperands) && decide (meth.sig.returnType = rt) && !meth.locks && decide (parseMethodDescriptor y.desc = some meth.sig)) = true) : (Jvm.Cond.code y bytes mx rt).before a s = true := by
  simp only [Bool.and_eq_true, beq_iff_eq, Bool.not_eq_true', decide_eq_true_eq] at h5
  obtain ⟨⟨⟨⟨⟨g1, g2⟩, g3⟩, g4⟩, g5⟩, g6⟩ := h5
  simp [Cond.before, Cond.holds, Cond.value, h1, h2, h3, h4, g1, g2, g3, g4, g5, g6]
def isCode : Jvm.Cond → Bool
  | .code _ _ _ _ => true
  | _ => false
theorem all_split {L : List Jvm.Cond} {P : Jvm.Cond → Bool} (h1 : L.all (fun c => isCode c || P c) = true) (h2 : ∀ c ∈ L.filter isCode, P c = true) : L.all P = true := by
  refine List.all_eq_true.mpr fun c hc => ?_
  have h := List.all_eq_true.mp h1 c hc
  rcases Bool.eq_false_or_eq_true (isCode c) with hi | hi
  · exact h2 c (List.mem_filter.mpr ⟨hc, hi⟩)
  · simpa [hi] using h
set_option maxRecDepth 65536 in
theorem w_c0 : (Jvm.Cond.code x code maxLocals ret).before args0 about1 = true := code_word (m := ⟨1, 2⟩) (meth := k1m2) (c := k1c2) (by decide +kernel) rfl rfl rfl (by decide +kernel)
set_option maxRecDepth 65536 in
theorem w_c1 : (Jvm.Cond.code ({ cls := "com/example/seatwright/seatwright/engine/DecisionAssignmentPinLaw", name := "pick", desc := "(I)Lcom/example/seatwright/seatwright/engine/Decision$Outcome;" } : Jvm.MethodName) method_2_code (1 : Nat) (Option.some (Jvm.ClassFile.FieldType.object "com/example/seatwright/seatwright/engine/Decision$Outcome"))).before args0 about1 = true := code_word (m := ⟨1, 1⟩) (meth := k1m1) (c := k1c1) (by decide +kernel) rfl rfl rfl (by decide +kernel)
set_option maxRecDepth 65536 in
theorem w_c2 : (Jvm.Cond.code ({ cls := "com/example/seatwright/seatwright/engine/Decision", name := "assignment", desc := "(Lcom/example/seatwright/seatwright/engine/Decision$Outcome;)Lcom/example/seatwright/seatwright/engine/Decision;" } : Jvm.MethodName) prog_11_method_6_code (1 : Nat) (Option.some (Jvm.ClassFile.FieldType.object "com/example/seatwright/seatwright/engine/Decision"))).before args0 about1 = true := code_word (m := ⟨8, 1⟩) (meth := k8m1) (c := k8c1) (by decide +kernel) rfl rfl rfl (by decide +kernel)
set_option maxRecDepth 65536 in
theorem w_c3 : (Jvm.Cond.code ({ cls := "com/example/seatwright/seatwright/engine/Decision", name := "<init>", desc := "(Lcom/example/seatwright/seatwright/engine/Decision$Outcome;Lcom/example/seatwright/seatwright/engine/Seat;Lcom/example/seatwright/seatwright/engine/Reason;Ljava/lang/String;Ljava/lang/String;Ljava/lang/String;Ljava/lang/String;)V" } : Jvm.MethodName) prog_11_method_1_code (8 : Nat) (Option.none : Option Jvm.ClassFile.FieldType)).before args0 about1 = true := code_word (m := ⟨8, 0⟩) (meth := k8m0) (c := k8c0) (by decide +kernel) rfl rfl rfl (by decide +kernel)
set_option maxRecDepth 65536 in
theorem w_c4 : (Jvm.Cond.code ({ cls := "java/lang/Object", name := "<init>", desc := "()V" } : Jvm.MethodName) object_method_1_code (1 : Nat) (Option.none : Option Jvm.ClassFile.FieldType)).before args0 about1 = true := code_word (m := ⟨0, 0⟩) (meth := k0m0) (c := k0c0) (by decide +kernel) rfl rfl rfl (by decide +kernel)
set_option maxRecDepth 65536 in
theorem w_c5 : (Jvm.Cond.code ({ cls := "com/example/seatwright/seatwright/engine/Decision", name := "outcome", desc := "()Lcom/example/seatwright/seatwright/engine/Decision$Outcome;" } : Jvm.MethodName) prog_11_method_9_code (1 : Nat) (Option.some (Jvm.ClassFile.FieldType.object "com/example/seatwright/seatwright/engine/Decision$Outcome"))).before args0 about1 = true := code_word (m := ⟨8, 2⟩) (meth := k8m2) (c := k8c2) (by decide +kernel) rfl rfl rfl (by decide +kernel)
set_option maxRecDepth 65536 in
theorem w_c6 : (Jvm.Cond.code ({ cls := "com/example/seatwright/seatwright/engine/Decision", name := "seat", desc := "()Lcom/example/seatwright/seatwright/engine/Seat;" } : Jvm.MethodName) prog_11_method_10_code (1 : Nat) (Option.some (Jvm.ClassFile.FieldType.object "com/example/seatwright/seatwright/engine/Seat"))).before args0 about1 = true := code_word (m := ⟨8, 3⟩) (meth := k8m3) (c := k8c3) (by decide +kernel) rfl rfl rfl (by decide +kernel)
set_option maxRecDepth 65536 in
theorem w_c7 : (Jvm.Cond.code ({ cls := "com/example/seatwright/seatwright/engine/Decision", name := "reason", desc := "()Lcom/example/seatwright/seatwright/engine/Reason;" } : Jvm.MethodName) prog_11_method_11_code (1 : Nat) (Option.some (Jvm.ClassFile.FieldType.object "com/example/seatwright/seatwright/engine/Reason"))).before args0 about1 = true := code_word (m := ⟨8, 4⟩) (meth := k8m4) (c := k8c4) (by decide +kernel) rfl rfl rfl (by decide +kernel)
set_option maxRecDepth 65536 in
theorem w_c8 : (Jvm.Cond.code ({ cls := "com/example/seatwright/seatwright/engine/Decision", name := "unit", desc := "()Ljava/lang/String;" } : Jvm.MethodName) prog_11_method_12_code (1 : Nat) (Option.some (Jvm.ClassFile.FieldType.object "java/lang/String"))).before args0 about1 = true := code_word (m := ⟨8, 5⟩) (meth := k8m5) (c := k8c5) (by decide +kernel) rfl rfl rfl (by decide +kernel)
set_option maxRecDepth 65536 in
theorem w_c9 : (Jvm.Cond.code ({ cls := "com/example/seatwright/seatwright/engine/Decision", name := "license", desc := "()Ljava/lang/String;" } : Jvm.MethodName) prog_11_method_13_code (1 : Nat) (Option.some (Jvm.ClassFile.FieldType.object "java/lang/String"))).before args0 about1 = true := code_word (m := ⟨8, 6⟩) (meth := k8m6) (c := k8c6) (by decide +kernel) rfl rfl rfl (by decide +kernel)
set_option maxRecDepth 65536 in
theorem w_c10 : (Jvm.Cond.code ({ cls := "com/example/seatwright/seatwright/engine/Decision", name := "daily", desc := "()Ljava/lang/String;" } : Jvm.MethodName) prog_11_method_14_code (1 : Nat) (Option.some (Jvm.ClassFile.FieldType.object "java/lang/String"))).before args0 about1 = true := code_word (m := ⟨8, 7⟩) (meth := k8m7) (c := k8c7) (by decide +kernel) rfl rfl rfl (by decide +kernel)
set_option maxRecDepth 65536 in
theorem w_c11 : (Jvm.Cond.code ({ cls := "com/example/seatwright/seatwright/engine/Decision", name := "named", desc := "()Ljava/lang/String;" } : Jvm.MethodName) prog_11_method_15_code (1 : Nat) (Option.some (Jvm.ClassFile.FieldType.object "java/lang/String"))).before args0 about1 = true := code_word (m := ⟨8, 8⟩) (meth := k8m8) (c := k8c8) (by decide +kernel) rfl rfl rfl (by decide +kernel)
def codes1 : List Jvm.Cond := [Jvm.Cond.code x code maxLocals ret, Jvm.Cond.code ({ cls := "com/example/seatwright/seatwright/engine/DecisionAssignmentPinLaw", name := "pick", desc := "(I)Lcom/example/seatwright/seatwright/engine/Decision$Outcome;" } : Jvm.MethodName) method_2_code (1 : Nat) (Option.some (Jvm.ClassFile.FieldType.object "com/example/seatwright/seatwright/engine/Decision$Outcome")), Jvm.Cond.code ({ cls := "com/example/seatwright/seatwright/engine/Decision", name := "assignment", desc := "(Lcom/example/seatwright/seatwright/engine/Decision$Outcome;)Lcom/example/seatwright/seatwright/engine/Decision;" } : Jvm.MethodName) prog_11_method_6_code (1 : Nat) (Option.some (Jvm.ClassFile.FieldType.object "com/example/seatwright/seatwright/engine/Decision")), Jvm.Cond.code ({ cls := "com/example/seatwright/seatwright/engine/Decision", name := "<init>", desc := "(Lcom/example/seatwright/seatwright/engine/Decision$Outcome;Lcom/example/seatwright/seatwright/engine/Seat;Lcom/example/seatwright/seatwright/engine/Reason;Ljava/lang/String;Ljava/lang/String;Ljava/lang/String;Ljava/lang/String;)V" } : Jvm.MethodName) prog_11_method_1_code (8 : Nat) (Option.none : Option Jvm.ClassFile.FieldType), Jvm.Cond.code ({ cls := "java/lang/Object", name := "<init>", desc := "()V" } : Jvm.MethodName) object_method_1_code (1 : Nat) (Option.none : Option Jvm.ClassFile.FieldType), Jvm.Cond.code ({ cls := "com/example/seatwright/seatwright/engine/Decision", name := "outcome", desc := "()Lcom/example/seatwright/seatwright/engine/Decision$Outcome;" } : Jvm.MethodName) prog_11_method_9_code (1 : Nat) (Option.some (Jvm.ClassFile.FieldType.object "com/example/seatwright/seatwright/engine/Decision$Outcome")), Jvm.Cond.code ({ cls := "com/example/seatwright/seatwright/engine/Decision", name := "seat", desc := "()Lcom/example/seatwright/seatwright/engine/Seat;" } : Jvm.MethodName) prog_11_method_10_code (1 : Nat) (Option.some (Jvm.ClassFile.FieldType.object "com/example/seatwright/seatwright/engine/Seat")), Jvm.Cond.code ({ cls := "com/example/seatwright/seatwright/engine/Decision", name := "reason", desc := "()Lcom/example/seatwright/seatwright/engine/Reason;" } : Jvm.MethodName) prog_11_method_11_code (1 : Nat) (Option.some (Jvm.ClassFile.FieldType.object "com/example/seatwright/seatwright/engine/Reason")), Jvm.Cond.code ({ cls := "com/example/seatwright/seatwright/engine/Decision", name := "unit", desc := "()Ljava/lang/String;" } : Jvm.MethodName) prog_11_method_12_code (1 : Nat) (Option.some (Jvm.ClassFile.FieldType.object "java/lang/String")), Jvm.Cond.code ({ cls := "com/example/seatwright/seatwright/engine/Decision", name := "license", desc := "()Ljava/lang/String;" } : Jvm.MethodName) prog_11_method_13_code (1 : Nat) (Option.some (Jvm.ClassFile.FieldType.object "java/lang/String")), Jvm.Cond.code ({ cls := "com/example/seatwright/seatwright/engine/Decision", name := "daily", desc := "()Ljava/lang/String;" } : Jvm.MethodName) prog_11_method_14_code (1 : Nat) (Option.some (Jvm.ClassFile.FieldType.object "java/lang/String")), Jvm.Cond.code ({ cls := "com/example/seatwright/seatwright/engine/Decision", name := "named", desc := "()Ljava/lang/String;" } : Jvm.MethodName) prog_11_method_15_code (1 : Nat) (Option.some (Jvm.ClassFile.FieldType.object "java/lang/String"))]
set_option maxRecDepth 65536 in
theorem codes_eq : words1.filter isCode = codes1 := rfl
theorem w_codes : ∀ c ∈ words1.filter isCode, c.before args0 about1 = true := by
  rw [codes_eq]
  intro c hc
  simp only [codes1, List.mem_cons, List.not_mem_nil, or_false] at hc
  rcases hc with rfl | rfl | rfl | rfl | rfl | rfl | rfl | rfl | rfl | rfl | rfl | rfl
  · exact w_c0
  · exact w_c1
  · exact w_c2
  · exact w_c3
  · exact w_c4
  · exact w_c5
  · exact w_c6
  · exact w_c7
  · exact w_c8
  · exact w_c9
  · exact w_c10
  · exact w_c11
set_option maxRecDepth 65536 in
theorem w_t1 : (words1.take 24).all (fun c => isCode c || c.before args0 about1) = true := by decide +kernel
set_option maxRecDepth 65536 in
theorem w_t2 : ((words1.drop 24).take 24).all (fun c => isCode c || c.before args0 about1) = true := by decide +kernel
set_option maxRecDepth 65536 in
theorem w_t3 : (((words1.drop 24).drop 24).take 24).all (fun c => isCode c || c.before args0 about1) = true := by decide +kernel
set_option maxRecDepth 65536 in
theorem w_t4 : (((words1.drop 24).drop 24).drop 24).all (fun c => isCode c || c.before args0 about1) = true := by decide +kernel
theorem w_tables : (allAtoms (Jvm.Cond.code x code maxLocals ret :: tables_1)).before args0 about1 = true := by
  rw [allAtoms_all]
  show words1.all (fun c => c.before args0 about1) = true
  refine all_split ?_ w_codes
  rw [← List.take_append_drop 24 words1, List.all_append, w_t1, ← List.take_append_drop 24 (words1.drop 24), List.all_append, w_t2, ← List.take_append_drop 24 ((words1.drop 24).drop 24), List.all_append, w_t3, w_t4]
  rfl
set_option maxRecDepth 65536 in
theorem w_case : (Jvm.Cond.and given_1 narrow_1).before args0 about1 = true := by decide +kernel
theorem w_applies : (headSpec (Jvm.Cond.code x code maxLocals ret :: tables_1) room_1).applies x e0.platform about1 = true :=
  (Spec.applies_iff w_frames).mpr ⟨w_running, w_runnable, w_alone, w_named, w_hears, w_ripe, w_room, w_tables⟩
theorem atStart : AtStart classFile x code maxLocals ret World_1 tables_1 room_1 Calls_1 rest_1 Pre_1 launch0 p0 e0 about1 theMethod args0 below0 :=
  ⟨lists_1, trivial, launch0.admits_env _ _ _, launch0.least_env, fairChoices_fair.cas, fairChoices_fair.clock, w_frames, w_args, w_heap, w_applies, trivial, trivial, w_case⟩
end start1
theorem witness_1 : WitnessClaimed_1 := ⟨start1.p0, start1.e0, start1.about1, start1.theMethod, start1.args0, start1.below0, start1.atStart⟩
end Jvm.Pilot.@@N@@
