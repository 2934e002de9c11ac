import JvmDerived
import JvmDerived.Pilot.@@N@@Statement
import JvmDerived.Pilot.@@N@@Code
set_option linter.unusedVariables false
set_option linter.unusedSimpArgs false
namespace Jvm.Pilot.@@N@@
open Jvm Jvm.ClassFile Sem Op Lib Jvm.Free Jvm.Stand Jvm.LawKit Jvm.RoadKit Bundle Jvm.Pilot.@@N@@.Jvm.D
/-! own kit: a walk that goes forward: Go says what is still owed from the state S -/
section OwnGo
variable {p : Program} {l : Launch} {e : Env} {R : Room} {s : State} {m : MethodId} {args : Array Value} {below : List Frame} {meth : Method} {c : Code} {T : State} {locs : List Loc} {cells slots : Nat} {Z : State} {a0 : Array Value} {h : Heap} {G : Outcome → State → Prop} {S S' : State}
def Go (p : Program) (e : Env) (below : List Frame) (G : Outcome → State → Prop) (S : State) : Prop :=
  ∃ s₂ o, Steps p.tables e below S s₂ ∧ s₂.status = .running ∧ Ended s₂ below o ∧ G o s₂
theorem Go.st (h : ∀ t, Steps p.tables e below S' t → Steps p.tables e below S t) (k : Go p e below G S') : Go p e below G S := by
  obtain ⟨s₂, o, h1, h2⟩ := k
  exact ⟨s₂, o, h _ h1, h2⟩
theorem Go.tr (h : Steps p.tables e below S S') (k : Go p e below G S') : Go p e below G S := by
  obtain ⟨s₂, o, h1, h2⟩ := k
  exact ⟨s₂, o, h.trans h1, h2⟩
theorem Go.cast {g g' : JFrame} (q : g = g') (k : Go p e below G (T.setTop g')) : Go p e below G (T.setTop g) := q ▸ k
/-- what a body leaves: Q of the value, the heap and the places written -/
def Left (s : State) (K N : Nat) (Q : Option Value → Heap → List Loc → Prop) : Outcome → State → Prop :=
  fun o t => ∃ v L, o = .returned v ∧ Q v t.heap L ∧ FrameEnd s o t L K N
/-- a body's contract -/
def Pays (l : Launch) (y : MethodName) (bytes : ByteArray) (maxL : Nat) (ret : Option FieldType) (rm : Room) (Z : State) (as' : Array Value) (h0 : Heap) (Q : Option Value → Heap → List Loc → Prop) : Prop :=
  ∀ ws, MetFree l y (head1 (Cond.code y bytes maxL ret :: ws) rm) (fun a U => a = as' ∧ Z.Warmed39 U.vm ∧ U.heap = h0) (fun _ _ _ _ _ => True) (fun _ U o U' => ∃ v L, o = .returned v ∧ Q v U'.heap L ∧ FrameEnd U o U' L rm.cells rm.slots)
theorem Pays.of {y : MethodName} {bytes : ByteArray} {maxL : Nat} {ret : Option FieldType} {rm : Room} {as' : Array Value} {h0 : Heap} {Q : Option Value → Heap → List Loc → Prop} (hx : plainFor y = true)
    (body : ∀ (p : Program) (e : Env) (s : State) (m : MethodId) (below : List Frame) (meth : Method) (c : Code) (T : State), p.tables.exec = Jvm.exec → c.code = bytes → c.maxLocals = maxL → meth.sig.returnType = ret → meth.locks = false → Z.Warmed39 s.vm → s.vm.findClass y.cls = some m.cls → meth.name = y.name →
      T.heap = h0 → Stand p l e rm s m as' below meth c T [] 0 0 → Go p e below (Left s rm.cells rm.slots Q) (T.setTop (entryFrame m as' maxL))) : Pays l y bytes maxL ret rm Z as' h0 Q := by
  intro ws
  refine MetFree.of_bodySF hx hisR ?_
  intro p e s m args below meth c s₁ Bd hml0 hP hK
  obtain ⟨rfl, hZ, hh⟩ := hP
  exact body p e s m below meth c s₁ Bd.exec Bd.bytes hml0 Bd.returns Bd.notSynchronized hZ (findClass_of_methodNamed Bd.named) (name_of_methodNamed Bd.named Bd.method).1 (by rw [← hh, Bd.state]; rfl) (Stand.of_body Bd)
theorem Go.out (X : Stand p l e R s m args below meth c T locs cells slots) {v : Option Value} {K N : Nat} {Q : Option Value → Heap → List Loc → Prop} (hlocks : meth.locks = false) (hv : meth.sig.returnType = none → v = none) (hK : cells ≤ K) (hN : slots ≤ N) (hQ : Q v T.heap locs)
    (st : ∀ fs, (∀ (f : JFrame) (acts : List Action), f.method = m → f.locked = none → f.entered = [] → (doReturn e (T.setTop f) acts v).1 = T.setFrames fs) → Steps p.tables e below S (T.setFrames fs)) : Go p e below (Left s K N Q) S := by
  obtain ⟨fs, hr, hrun, hended, hW, hsame⟩ := X.leave hv hlocks
  exact ⟨_, _, st fs hr, hrun, hended, v, locs, rfl, hQ, ⟨_, rfl⟩, hW, hsame.mono hK hN⟩
theorem ret_b (X : Stand p l e R s m args below meth c T locs cells slots) (hx : p.tables.exec = Jvm.exec) (hlocks : meth.locks = false) (hret : meth.sig.returnType = some .boolean) {pc : Nat} {Ls : Array Slot} {z : Int32} {rest : List Value} {K N : Nat} {Q : Option Value → Heap → List Loc → Prop} (hd : decode c.code pc = .ok (.ireturn, 1)) (hK : cells ≤ K) (hN : slots ≤ N)
    (hQ : Q (some (.int (z &&& 1))) T.heap locs) : Go p e below (Left s K N Q) (T.setTop (mkF m pc Ls (.int z :: rest))) :=
  Go.out X (v := some (.int (z &&& 1))) hlocks (fun h => by rw [hret] at h; cases h) hK hN hQ fun fs hr => retN X hx (t := .boolean) hret (by simp) hd hr
theorem ret_c (X : Stand p l e R s m args below meth c T locs cells slots) (hx : p.tables.exec = Jvm.exec) (hlocks : meth.locks = false) (hret : meth.sig.returnType = some .char) {pc : Nat} {Ls : Array Slot} {z : Int32} {rest : List Value} {K N : Nat} {Q : Option Value → Heap → List Loc → Prop} (hd : decode c.code pc = .ok (.ireturn, 1)) (hK : cells ≤ K) (hN : slots ≤ N)
    (hQ : Q (some (.int (nar .char z))) T.heap locs) : Go p e below (Left s K N Q) (T.setTop (mkF m pc Ls (.int z :: rest))) :=
  Go.out X (v := some (.int (nar .char z))) hlocks (fun h => by rw [hret] at h; cases h) hK hN hQ fun fs hr => retN X hx (t := .char) hret (by simp) hd hr
theorem ret_y (X : Stand p l e R s m args below meth c T locs cells slots) (hx : p.tables.exec = Jvm.exec) (hlocks : meth.locks = false) (hret : meth.sig.returnType = some .byte) {pc : Nat} {Ls : Array Slot} {z : Int32} {rest : List Value} {K N : Nat} {Q : Option Value → Heap → List Loc → Prop} (hd : decode c.code pc = .ok (.ireturn, 1)) (hK : cells ≤ K) (hN : slots ≤ N)
    (hQ : Q (some (.int (nar .byte z))) T.heap locs) : Go p e below (Left s K N Q) (T.setTop (mkF m pc Ls (.int z :: rest))) :=
  Go.out X (v := some (.int (nar .byte z))) hlocks (fun h => by rw [hret] at h; cases h) hK hN hQ fun fs hr => retN X hx (t := .byte) hret (by simp) hd hr
theorem ret_i (X : Stand p l e R s m args below meth c T locs cells slots) (hx : p.tables.exec = Jvm.exec) (hlocks : meth.locks = false) (hret : meth.sig.returnType = some .int) {pc : Nat} {Ls : Array Slot} {z : Int32} {rest : List Value} {K N : Nat} {Q : Option Value → Heap → List Loc → Prop} (hd : decode c.code pc = .ok (.ireturn, 1)) (hK : cells ≤ K) (hN : slots ≤ N)
    (hQ : Q (some (.int z)) T.heap locs) : Go p e below (Left s K N Q) (T.setTop (mkF m pc Ls (.int z :: rest))) :=
  Go.out X (v := some (.int z)) hlocks (fun h => by rw [hret] at h; cases h) hK hN hQ fun fs hr => retOut X hx hret rfl (Or.inl ⟨rfl, Or.inl rfl, z, rfl⟩) hd hr
theorem ret_l (X : Stand p l e R s m args below meth c T locs cells slots) (hx : p.tables.exec = Jvm.exec) (hlocks : meth.locks = false) (hret : meth.sig.returnType = some .long) {pc : Nat} {Ls : Array Slot} {z : Int64} {rest : List Value} {K N : Nat} {Q : Option Value → Heap → List Loc → Prop} (hd : decode c.code pc = .ok (.lreturn, 1)) (hK : cells ≤ K) (hN : slots ≤ N)
    (hQ : Q (some (.long z)) T.heap locs) : Go p e below (Left s K N Q) (T.setTop (mkF m pc Ls (.long z :: rest))) :=
  Go.out X (v := some (.long z)) hlocks (fun h => by rw [hret] at h; cases h) hK hN hQ fun fs hr => retOut X hx hret rfl (Or.inr (Or.inl ⟨rfl, rfl, z, rfl⟩)) hd hr
theorem ret_d (X : Stand p l e R s m args below meth c T locs cells slots) (hx : p.tables.exec = Jvm.exec) (hlocks : meth.locks = false) (hret : meth.sig.returnType = some .double) {pc : Nat} {Ls : Array Slot} {z : UInt64} {rest : List Value} {K N : Nat} {Q : Option Value → Heap → List Loc → Prop} (hd : decode c.code pc = .ok (.dreturn, 1)) (hK : cells ≤ K) (hN : slots ≤ N)
    (hQ : Q (some (.double z)) T.heap locs) : Go p e below (Left s K N Q) (T.setTop (mkF m pc Ls (.double z :: rest))) :=
  Go.out X (v := some (.double z)) hlocks (fun h => by rw [hret] at h; cases h) hK hN hQ fun fs hr => retOut X hx hret rfl (Or.inr (Or.inr (Or.inl ⟨rfl, rfl, z, rfl⟩))) hd hr
theorem ret_a (X : Stand p l e R s m args below meth c T locs cells slots) (hx : p.tables.exec = Jvm.exec) (hlocks : meth.locks = false) {t : FieldType} (hret : meth.sig.returnType = some t) (ht : t.isReference = true) {pc : Nat} {Ls : Array Slot} {v : Value} (hv : v.isRef = true) {rest : List Value} {K N : Nat} {Q : Option Value → Heap → List Loc → Prop} (hd : decode c.code pc = .ok (.areturn, 1)) (hK : cells ≤ K) (hN : slots ≤ N)
    (hQ : Q (some v) T.heap locs) : Go p e below (Left s K N Q) (T.setTop (mkF m pc Ls (v :: rest))) :=
  Go.out X (v := some v) hlocks (fun h => by rw [hret] at h; cases h) hK hN hQ fun fs hr => retOut X hx hret (by rcases ref_cases hv with rfl | ⟨a, rfl⟩ <;> cases t <;> first | rfl | cases ht) (Or.inr (Or.inr (Or.inr (Or.inr ⟨rfl, ht, hv⟩)))) hd hr
theorem ret_v (X : Stand p l e R s m args below meth c T locs cells slots) (hx : p.tables.exec = Jvm.exec) (hlocks : meth.locks = false) (hret : meth.sig.returnType = none) {pc : Nat} {Ls : Array Slot} {K N : Nat} {Q : Option Value → Heap → List Loc → Prop} (hd : decode c.code pc = .ok (.return_, 1)) (hK : cells ≤ K) (hN : slots ≤ N)
    (hQ : Q none T.heap locs) : Go p e below (Left s K N Q) (T.setTop (mkF m pc Ls [])) :=
  Go.out X (v := none) hlocks (fun _ => rfl) hK hN hQ fun fs hr => X.returnOut hx hret hd hr
/-- a call of an instance method, by its contract -/
theorem Go.virt (X : Stand p l e R s m args below meth c T locs cells slots) (hx : p.tables.exec = Jvm.exec) (hZ : Z.Warmed39 s.vm) {own C : String} {index : Nat} {y z : MethodName} (hown : s.vm.findClass own = some m.cls) (wl : (Cond.methodLink own index y).before a0 Z = true) (wd : (Cond.declares y).before a0 Z = true) (nf : NotFace s y)
    (wsel : (Cond.selects C y z).before a0 Z = true) (wi : (Cond.instanceMethod z).before a0 Z = true) {bytes : ByteArray} {maxL : Nat} {ret : Option FieldType} (wc : (Cond.code z bytes maxL ret).before a0 Z = true) (wz : (Cond.initialized z.cls).before a0 Z = true) (hy : y.cls ≠ "java/lang/invoke/MethodHandle" ∧ y.cls ≠ "java/lang/invoke/VarHandle")
    {rm : Room} {Q : Option Value → Heap → List Loc → Prop} {b : Addr} {argsL rest : List Value} (P : Pays l z bytes maxL ret rm Z (.ref b :: argsL).toArray h Q) (eT : T.heap = h) (E : Exa Z h b C) {pc : Nat} {Ls : Array Slot} {st : List Value} (hst : st = argsL.reverse ++ .ref b :: rest) (hsz : Ls.size = c.maxLocals) {ps : List FieldType} {r : Option FieldType} (hpd : parseMethodDescriptor y.desc = some ⟨ps, r⟩) (hlen : argsL.length = ps.length)
    (hd : decode c.code pc = .ok (.invokevirtual index, 3)) (W : Nat) (hW : (rest.map fun v => v.category).sum ≤ W) (hf : rm.frames + 1 ≤ R.frames) (hl : W + (maxL + 11) + rm.locals ≤ R.locals) (hc : cells + rm.cells ≤ R.cells) (hs : slots + rm.slots ≤ R.slots)
    (k : ∀ (v : Option Value) (T' : State) (L : List Loc), Stand p l e R s m args below meth c T' (locs ++ L) (cells + rm.cells) (slots + rm.slots) → Q v T'.heap L → Go p e below G (T'.setTop (mkF m (pc + 3) Ls (v.toList ++ rest)))) : Go p e below G (T.setTop (mkF m pc Ls st)) := by
  obtain ⟨cB, kB, hcB, -, hrecv⟩ := isOf hZ eT E
  obtain ⟨v, _, ⟨T', L', k', n'⟩, -, X', ⟨L, hQ, h1, h2, h3⟩, stp⟩ := X.virtualBack hx hown (mvT hZ wl) (mvT hZ wd) nf (mvT hZ wsel) (mvT hZ wi) hy (backOf (W := W) (P []) hZ wc wz hf hl) hcB hrecv (g := mkF m pc Ls st) rfl hsz (Steps.refl _) (argsL := argsL) (rest := rest) (lenOf hpd hlen) hst (by show 2 * 0 + _ ≤ _; omega) hd (fun _ _ => ⟨rfl, eT, hc, hs⟩)
  dsimp only at X' hQ h1 h2 h3 stp
  subst h1 h2 h3
  exact Go.tr stp (k v T' L X' hQ)
/-- a call of an inherited method through a subclass's name, by its contract -/
theorem Go.up (X : Stand p l e R s m args below meth c T locs cells slots) (hx : p.tables.exec = Jvm.exec) (hZ : Z.Warmed39 s.vm) {own C owner : String} {index : Nat} {xm y : MethodName} (hown : s.vm.findClass own = some m.cls) (wl : (Cond.methodLink own index xm).before a0 Z = true) (wsm : (Cond.sameMethod xm.cls owner xm.name xm.desc).before a0 Z = true)
    (wd : (Cond.declares ⟨owner, xm.name, xm.desc⟩).before a0 Z = true) (wsel : (Cond.selects C xm y).before a0 Z = true) (wi : (Cond.instanceMethod y).before a0 Z = true) {bytes : ByteArray} {maxL : Nat} {ret : Option FieldType} (wc : (Cond.code y bytes maxL ret).before a0 Z = true) (wz : (Cond.initialized y.cls).before a0 Z = true) (hy : owner ≠ "java/lang/invoke/MethodHandle" ∧ owner ≠ "java/lang/invoke/VarHandle")
    {rm : Room} {Q : Option Value → Heap → List Loc → Prop} {b : Addr} {argsL rest : List Value} (P : Pays l y bytes maxL ret rm Z (.ref b :: argsL).toArray h Q) (eT : T.heap = h) (E : Exa Z h b C) {pc : Nat} {Ls : Array Slot} {st : List Value} (hst : st = argsL.reverse ++ .ref b :: rest) (hsz : Ls.size = c.maxLocals) {ps : List FieldType} {r : Option FieldType} (hpd : parseMethodDescriptor xm.desc = some ⟨ps, r⟩) (hlen : argsL.length = ps.length)
    (hd : decode c.code pc = .ok (.invokevirtual index, 3)) (W : Nat) (hW : (rest.map fun v => v.category).sum ≤ W) (hf : rm.frames + 1 ≤ R.frames) (hl : W + (maxL + 11) + rm.locals ≤ R.locals) (hc : cells + rm.cells ≤ R.cells) (hs : slots + rm.slots ≤ R.slots)
    (k : ∀ (v : Option Value) (T' : State) (L : List Loc), Stand p l e R s m args below meth c T' (locs ++ L) (cells + rm.cells) (slots + rm.slots) → Q v T'.heap L → Go p e below G (T'.setTop (mkF m (pc + 3) Ls (v.toList ++ rest)))) : Go p e below G (T.setTop (mkF m pc Ls st)) := by
  obtain ⟨cB, kB, hcB, -, hrecv⟩ := isOf hZ eT E
  obtain ⟨v, _, ⟨T', L', k', n'⟩, -, X', ⟨L, hQ, h1, h2, h3⟩, stp⟩ := X.virtualBackUp hx hown (mvT hZ wl) (mvT hZ wsm) (mvT hZ wd) hy (mvT hZ wsel) (mvT hZ wi) (backOf (W := W) (P []) hZ wc wz hf hl) hcB hrecv (g := mkF m pc Ls st) rfl hsz (Steps.refl _) (argsL := argsL) (rest := rest) (lenOf hpd hlen) hst (by show 2 * 0 + _ ≤ _; omega) hd (fun _ _ => ⟨rfl, eT, hc, hs⟩)
  dsimp only at X' hQ h1 h2 h3 stp
  subst h1 h2 h3
  exact Go.tr stp (k v T' L X' hQ)
/-- a call of a private instance method by invokevirtual, by its contract -/
theorem Go.priv (X : Stand p l e R s m args below meth c T locs cells slots) (hx : p.tables.exec = Jvm.exec) (hZ : Z.Warmed39 s.vm) {own C : String} {index : Nat} {y : MethodName} (hown : s.vm.findClass own = some m.cls) (wl : (Cond.methodLink own index y).before a0 Z = true) (wi : (Cond.instanceMethod y).before a0 Z = true)
    (wsel : (Cond.selects y.cls y y).before a0 Z = true) (wp : (Cond.privateMethod y).before a0 Z = true) {bytes : ByteArray} {maxL : Nat} {ret : Option FieldType} (wc : (Cond.code y bytes maxL ret).before a0 Z = true) (wz : (Cond.initialized y.cls).before a0 Z = true) (hy : y.cls ≠ "java/lang/invoke/MethodHandle" ∧ y.cls ≠ "java/lang/invoke/VarHandle")
    {rm : Room} {Q : Option Value → Heap → List Loc → Prop} {b : Addr} {argsL rest : List Value} (P : Pays l y bytes maxL ret rm Z (.ref b :: argsL).toArray h Q) (eT : T.heap = h) (E : Exa Z h b C) {pc : Nat} {Ls : Array Slot} {st : List Value} (hst : st = argsL.reverse ++ .ref b :: rest) (hsz : Ls.size = c.maxLocals) {ps : List FieldType} {r : Option FieldType} (hpd : parseMethodDescriptor y.desc = some ⟨ps, r⟩) (hlen : argsL.length = ps.length)
    (hd : decode c.code pc = .ok (.invokevirtual index, 3)) (W : Nat) (hW : (rest.map fun v => v.category).sum ≤ W) (hf : rm.frames + 1 ≤ R.frames) (hl : W + (maxL + 11) + rm.locals ≤ R.locals) (hc : cells + rm.cells ≤ R.cells) (hs : slots + rm.slots ≤ R.slots)
    (k : ∀ (v : Option Value) (T' : State) (L : List Loc), Stand p l e R s m args below meth c T' (locs ++ L) (cells + rm.cells) (slots + rm.slots) → Q v T'.heap L → Go p e below G (T'.setTop (mkF m (pc + 3) Ls (v.toList ++ rest)))) : Go p e below G (T.setTop (mkF m pc Ls st)) := by
  obtain ⟨cell, hcell, hobj⟩ := E.cell
  obtain ⟨v, _, ⟨T', L', k', n'⟩, -, X', ⟨L, hQ, h1, h2, h3⟩, stp⟩ := X.privateBack hx hown (mvT hZ wl) (mvT hZ wi) (mvT hZ wsel) (Cond.privateMethod_at (mvP (args := args) hZ wp)) (mvT hZ wc) hy (backOf (W := W) (P []) hZ wc wz hf hl) (g := mkF m pc Ls st) rfl hsz (Steps.refl _) (a := b) (by rw [eT]; exact hcell) hobj (argsL := argsL) (rest := rest) (lenOf hpd hlen) hst (by show 2 * 0 + _ ≤ _; omega) hd (fun _ _ => ⟨rfl, eT, hc, hs⟩)
  dsimp only at X' hQ h1 h2 h3 stp
  subst h1 h2 h3
  exact Go.tr stp (k v T' L X' hQ)
/-- a call of an interface's method, by the contract of the method that it goes to -/
theorem Go.face (X : Stand p l e R s m args below meth c T locs cells slots) (hx : p.tables.exec = Jvm.exec) (hZ : Z.Warmed39 s.vm) {own C : String} {index count : Nat} {xi y : MethodName} (hown : s.vm.findClass own = some m.cls) (wl : (Cond.methodLink own index xi).before a0 Z = true) (wd : (Cond.declares xi).before a0 Z = true)
    (wf : (Cond.interfaceMethod xi.cls xi.cls xi.name xi.desc).before args s = true) (wsel : (Cond.selects C xi y).before a0 Z = true) (wi : (Cond.instanceMethod y).before a0 Z = true) (wpub : (Cond.publicMethod y).before a0 Z = true) (wun : (Cond.unhidden C xi.name xi.desc).before a0 Z = true) (wca : (Cond.castable C xi.cls).before a0 Z = true)
    {bytes : ByteArray} {maxL : Nat} {ret : Option FieldType} (wc : (Cond.code y bytes maxL ret).before a0 Z = true) (wz : (Cond.initialized y.cls).before a0 Z = true) (hy : xi.cls ≠ "java/lang/invoke/MethodHandle" ∧ xi.cls ≠ "java/lang/invoke/VarHandle")
    {rm : Room} {Q : Option Value → Heap → List Loc → Prop} {b : Addr} {argsL rest : List Value} (P : Pays l y bytes maxL ret rm Z (.ref b :: argsL).toArray h Q) (eT : T.heap = h) (E : Exa Z h b C) {pc : Nat} {Ls : Array Slot} {st : List Value} (hst : st = argsL.reverse ++ .ref b :: rest) (hsz : Ls.size = c.maxLocals) {ps : List FieldType} {r : Option FieldType} (hpd : parseMethodDescriptor xi.desc = some ⟨ps, r⟩) (hlen : argsL.length = ps.length)
    (hd : decode c.code pc = .ok (.invokeinterface index count, 5)) (W : Nat) (hW : (rest.map fun v => v.category).sum ≤ W) (hf : rm.frames + 1 ≤ R.frames) (hl : W + (maxL + 11) + rm.locals ≤ R.locals) (hc : cells + rm.cells ≤ R.cells) (hs : slots + rm.slots ≤ R.slots)
    (k : ∀ (v : Option Value) (T' : State) (L : List Loc), Stand p l e R s m args below meth c T' (locs ++ L) (cells + rm.cells) (slots + rm.slots) → Q v T'.heap L → Go p e below G (T'.setTop (mkF m (pc + 5) Ls (v.toList ++ rest)))) : Go p e below G (T.setTop (mkF m pc Ls st)) := by
  obtain ⟨cB, kB, hcB, hkB, hrecv⟩ := isOf hZ eT E
  obtain ⟨v, _, ⟨T', L', k', n'⟩, -, X', ⟨L, hQ, h1, h2, h3⟩, stp⟩ := X.interfaceBack hx hown (mvT hZ wl) (mvT hZ wd) wf (mvT hZ wsel) (mvT hZ wi) (mvT hZ wpub) (mvT hZ wun) (mvT hZ wca) hy (backOf (W := W) (P []) hZ wc wz hf hl) hcB hkB hrecv (g := mkF m pc Ls st) rfl hsz (Steps.refl _) (argsL := argsL) (rest := rest) (lenOf hpd hlen) hst (by show 2 * 0 + _ ≤ _; omega) hd (fun _ _ => ⟨rfl, eT, hc, hs⟩)
  dsimp only at X' hQ h1 h2 h3 stp
  subst h1 h2 h3
  exact Go.tr stp (k v T' L X' hQ)
/-- a call of a constructor, by its contract -/
theorem Go.init (X : Stand p l e R s m args below meth c T locs cells slots) (hx : p.tables.exec = Jvm.exec) (hZ : Z.Warmed39 s.vm) {own : String} {index : Nat} {y : MethodName} (hy1 : y.name = "<init>") (hown : s.vm.findClass own = some m.cls) (wl : (Cond.methodLink own index y).before a0 Z = true)
    (wi : (Cond.instanceMethod y).before a0 Z = true) {bytes : ByteArray} {maxL : Nat} (wc : (Cond.code y bytes maxL none).before a0 Z = true) (wz : (Cond.initialized y.cls).before a0 Z = true) (hy : y.cls ≠ "java/lang/invoke/MethodHandle" ∧ y.cls ≠ "java/lang/invoke/VarHandle")
    {rm : Room} {Q : Option Value → Heap → List Loc → Prop} {b : Addr} {argsL rest : List Value} (P : Pays l y bytes maxL none rm Z (.ref b :: argsL).toArray h Q) (eT : T.heap = h) {pc : Nat} {Ls : Array Slot} {st : List Value} (hst : st = argsL.reverse ++ .ref b :: rest) (hsz : Ls.size = c.maxLocals) {ps : List FieldType} {r : Option FieldType} (hpd : parseMethodDescriptor y.desc = some ⟨ps, r⟩) (hlen : argsL.length = ps.length)
    (hd : decode c.code pc = .ok (.invokespecial index, 3)) (W : Nat) (hW : (rest.map fun v => v.category).sum ≤ W) (hf : rm.frames + 1 ≤ R.frames) (hl : W + (maxL + 11) + rm.locals ≤ R.locals) (hc : cells + rm.cells ≤ R.cells) (hs : slots + rm.slots ≤ R.slots)
    (k : ∀ (v : Option Value) (T' : State) (L : List Loc), Stand p l e R s m args below meth c T' (locs ++ L) (cells + rm.cells) (slots + rm.slots) → Q v T'.heap L → Go p e below G (T'.setTop (mkF m (pc + 3) Ls (v.toList ++ rest)))) : Go p e below G (T.setTop (mkF m pc Ls st)) := by
  obtain ⟨v, _, ⟨T', L', k', n'⟩, -, X', ⟨L, hQ, h1, h2, h3⟩, stp⟩ := X.specialBack hx hy1 hown (mvT hZ wl) (mvT hZ wi) (mvT hZ wc) hy (backOf (W := W) (P []) hZ wc wz hf hl) (g := mkF m pc Ls st) rfl hsz (Steps.refl _) (a := b) (argsL := argsL) (rest := rest) (lenOf hpd hlen) hst (by show 2 * 0 + _ ≤ _; omega) hd (fun _ _ => ⟨rfl, eT, hc, hs⟩)
  dsimp only at X' hQ h1 h2 h3 stp
  subst h1 h2 h3
  exact Go.tr stp (k v T' L X' hQ)
/-- a call of a static method, by its contract -/
theorem Go.stat (X : Stand p l e R s m args below meth c T locs cells slots) (hx : p.tables.exec = Jvm.exec) (hZ : Z.Warmed39 s.vm) {own : String} {index : Nat} {y : MethodName} (hown : s.vm.findClass own = some m.cls) (wl : (Cond.methodLink own index y).before a0 Z = true)
    (wst : (Cond.static y).before a0 Z = true) (wz : (Cond.initialized y.cls).before a0 Z = true) {bytes : ByteArray} {maxL : Nat} {ret : Option FieldType} (wc : (Cond.code y bytes maxL ret).before a0 Z = true) (hy : y.cls ≠ "java/lang/invoke/MethodHandle" ∧ y.cls ≠ "java/lang/invoke/VarHandle")
    {rm : Room} {Q : Option Value → Heap → List Loc → Prop} {argsL rest : List Value} (P : Pays l y bytes maxL ret rm Z argsL.toArray h Q) (eT : T.heap = h) {pc : Nat} {Ls : Array Slot} {st : List Value} (hst : st = argsL.reverse ++ rest) (hsz : Ls.size = c.maxLocals) {ps : List FieldType} {r : Option FieldType} (hpd : parseMethodDescriptor y.desc = some ⟨ps, r⟩) (hlen : argsL.length = ps.length)
    (hd : decode c.code pc = .ok (.invokestatic index, 3)) (W : Nat) (hW : (rest.map fun v => v.category).sum ≤ W) (hf : rm.frames + 1 ≤ R.frames) (hl : W + (maxL + 11) + rm.locals ≤ R.locals) (hc : cells + rm.cells ≤ R.cells) (hs : slots + rm.slots ≤ R.slots)
    (k : ∀ (v : Option Value) (T' : State) (L : List Loc), Stand p l e R s m args below meth c T' (locs ++ L) (cells + rm.cells) (slots + rm.slots) → Q v T'.heap L → Go p e below G (T'.setTop (mkF m (pc + 3) Ls (v.toList ++ rest)))) : Go p e below G (T.setTop (mkF m pc Ls st)) := by
  obtain ⟨mk, hnamed⟩ := Cond.named_of_code (mvT (args := args) hZ wc)
  obtain ⟨methM, cM, hmeth, hcode, -, -, -, -, -, hsig⟩ := Cond.code_spec hnamed (mvT (args := args) hZ wc)
  obtain ⟨v, _, ⟨T', L', k', n'⟩, -, X', ⟨L, hQ, h1, h2, h3⟩, stp⟩ := X.staticBack hx hown (mvT hZ wl) (mvT hZ wst) (mvT hZ wz) hnamed hmeth hsig hy (backOf (W := W) (P []) hZ wc wz hf hl) (g := mkF m pc Ls st) rfl hsz (Steps.refl _) (argsL := argsL) (rest := rest) (lenOf hpd hlen) hst (by show 2 * 0 + _ ≤ _; omega) hd (fun _ _ => ⟨rfl, eT, hc, hs⟩)
  dsimp only at X' hQ h1 h2 h3 stp
  subst h1 h2 h3
  exact Go.tr stp (k v T' L X' hQ)
theorem own_alen (X : Stand p l e R s m args below meth c T locs cells slots) (hx : p.tables.exec = Jvm.exec) (hZ : Z.Warmed39 s.vm) (eT : T.heap = h) {a : Addr} {cl : Cell} {ty : FieldType} (A : Arr Z h a cl ty) {z : Int32} (q : cl.slots.size.toInt32 = z) {pc : Nat} {Ls : Array Slot} {st rest : List Value} (hst : st = .ref a :: rest)
    (hd : decode c.code pc = .ok (.arraylength, 1)) (target : State) (k : Steps p.tables e below (T.setTop (mkF m (pc + 1) Ls (.int z :: rest))) target) : Steps p.tables e below (T.setTop (mkF m pc Ls st)) target :=
  X.arraylength hx (by rw [eT]; exact A.1) (State.isArrayOf_alike hZ.alike A.2.1) (g := mkF m pc Ls st) rfl hst hd target (by rw [q]; exact k)
def ObjAt (h : Heap) (x : Addr) : Prop := ∃ cell : Cell, h[x]? = some cell ∧ cell.vm.isStatics = false
theorem own_obj_exa {x : Addr} {C : String} (F : Exa Z h x C) : ObjAt h x := by
  obtain ⟨c1, _, h1, _, _, h4, _⟩ := F
  exact ⟨c1, h1, h4⟩
theorem own_obj_arv {x : Addr} {k : ClassId} {ty : FieldType} {n : Int32} {vs : List Value} {d : Value} (F : Arv Z h x k ty n vs d) : ObjAt h x := by
  obtain ⟨c1, A, _⟩ := F
  exact ⟨c1, A.1, A.plain⟩
theorem own_sta_keep {h' : Heap} {C n d : String} {v : Value} {ws : List Addr} (F : Sta Z h C n d v) (K : Keep h h' ws) (hws : ∀ x ∈ ws, ObjAt h x) : Sta Z h' C n d v := by
  obtain ⟨cf, i, k, f, st, cell, h1, h2, h3, h4, h5, h6, h7⟩ := F
  refine ⟨cf, i, k, f, st, cell, h1, h2, h3, h4, K.2.1 _ _ h5 fun q => ?_, h6, h7⟩
  obtain ⟨c1, g1, g2⟩ := hws _ q
  cases h5.symm.trans g1
  rw [h6] at g2
  cases g2
theorem own_entry {n : Nat} {Ls : Array Slot} (h : Jvm.Sym.laidSlots args.toList ++ List.replicate (n - (Jvm.Sym.laidSlots args.toList).length) .unset = Ls.toList) : entryFrame m args n = mkF m 0 Ls [] := by
  have q : argsToLocals args n = Ls := Array.toList_inj.mp (by rw [Jvm.Sym.argsToLocals_toList]; exact h)
  unfold entryFrame
  rw [q]
theorem own_eqI {first : State} {o : Option Outcome} {idx : List Nat} {a b : Term} {x y : Int32} (ha : a.eval args first o idx s = some (.int x)) (hb : b.eval args first o idx s = some (.int y)) : (Jvm.Cond.eq a b).value args first o s idx = some (decide (x = y)) := by simp [Cond.value, ha, hb]
theorem own_nar_ref {t : FieldType} {v : Value} (hv : v.isRef = true) : narrow t v = v := by
  rcases ref_cases hv with rfl | ⟨a, rfl⟩ <;> cases t <;> rfl
theorem own_fit_ref {t : FieldType} {v : Value} (hv : v.isRef = true) (ht : t.isReference = true := by rfl) : fits t v = true := by
  rcases ref_cases hv with rfl | ⟨a, rfl⟩ <;> cases t <;> first | rfl | cases ht
end OwnGo
theorem dRC_0 : decode jdk_30_method_1_code 0 = .ok (.aload_n 0, 1) := by decide +kernel
theorem dRC_1 : decode jdk_30_method_1_code 1 = .ok (.invokespecial 1, 3) := by decide +kernel
theorem dRC_4 : decode jdk_30_method_1_code 4 = .ok (.return_, 1) := by decide +kernel
theorem pn_java_lang_Record : plainName "java/lang/Record" = true := by first | (simp [plainName, overriddenIn]; done) | decide +kernel
theorem ef_rmRC (m : MethodId) (a : Addr) : entryFrame m #[(.ref a)] 1 = mkF m 0 #[.val (.ref a)] [] := by first | exact own_entry rfl | (simp [entryFrame, mkF, argsToLocals, Value.category]; done) | rfl
set_option maxRecDepth 65536 in
set_option maxHeartbeats 40000000 in
theorem rmRC (l : Launch) (Z : State) (a0 : Array Value) (hw : ∀ d ∈ tables_1, d.before a0 Z = true) (a : Addr) (h0 : Heap) (n0 : Nat) (Z0 : n0 ≤ h0.size) :
    Pays l (⟨"java/lang/Record", "<init>", "()V"⟩ : MethodName) jdk_30_method_1_code 1 none ({ frames := 1, cells := 0, slots := 0, locals := 12 } : Room) Z #[(.ref a)] h0 (fun v h L => v = none ∧ Fr n0 L ∧ h = h0) := by
  refine Pays.of (plainFor_of_name pn_java_lang_Record) ?_
  intro pP eE sS m below methM cC T hx hby hml hret hlk hZ hown hnm eT X
  replace hown : sS.vm.findClass "java/lang/Record" = some m.cls := hown
  have N0 := Fr.nil n0
  refine Go.cast (ef_rmRC m a) ?_
  refine Go.st (S' := T.setTop (mkF m 1 #[.val (.ref a)] [(.ref a)])) (fun t kt => XS.aloadN X.here hx rfl (hb hby dRC_0) rfl rfl kt) ?_
  obtain ⟨T1, X1, e1, st1⟩ := initO X hx hZ hown (hw _ (List.mem_of_getElem? (i := 12) rfl)) (hw _ (List.mem_of_getElem? (i := 13) rfl)) (hw _ (List.mem_of_getElem? (i := 14) rfl)) eT (g := (mkF m 1 #[.val (.ref a)] [(.ref a)])) rfl (by rw [hml]; rfl) rfl (hb hby dRC_1) (by decide) (W := 0) (by show 2 * 0 + _ ≤ _; exact Nat.le_of_eq rfl) (by decide)
  refine Go.st (S' := T1.setTop (mkF m 4 #[.val (.ref a)] [])) (fun t kt => st1 t kt) ?_
  exact ret_v X1 hx hlk hret (hb hby dRC_4) (by decide) (by decide) (⟨rfl, N0, e1⟩)
theorem d2_0 : decode prog_56_method_1_code 0 = .ok (.aload_n 0, 1) := by decide +kernel
theorem d2_1 : decode prog_56_method_1_code 1 = .ok (.invokespecial 1, 3) := by decide +kernel
theorem d2_4 : decode prog_56_method_1_code 4 = .ok (.aload_n 0, 1) := by decide +kernel
theorem d2_5 : decode prog_56_method_1_code 5 = .ok (.lload_n 1, 1) := by decide +kernel
theorem d2_6 : decode prog_56_method_1_code 6 = .ok (.putfield 7, 3) := by decide +kernel
theorem d2_9 : decode prog_56_method_1_code 9 = .ok (.aload_n 0, 1) := by decide +kernel
theorem d2_10 : decode prog_56_method_1_code 10 = .ok (.lload_n 3, 1) := by decide +kernel
theorem d2_11 : decode prog_56_method_1_code 11 = .ok (.putfield 13, 3) := by decide +kernel
theorem d2_14 : decode prog_56_method_1_code 14 = .ok (.return_, 1) := by decide +kernel
theorem pd___V : parseMethodDescriptor "()V" = some ⟨[], none⟩ := by decide +kernel
theorem pn_com_example_forecache_forecache_MachineLoad_Ticks : plainName "com/example/forecache/forecache/MachineLoad$Ticks" = true := by first | (simp [plainName, overriddenIn]; done) | decide +kernel
theorem ef_rm2 (m : MethodId) (a : Addr) (bu : Int64) (to : Int64) : entryFrame m #[(.ref a), (.long bu), (.long to)] 5 = mkF m 0 #[.val (.ref a), .val (.long bu), .second, .val (.long to), .second] [] := by first | exact own_entry rfl | (simp [entryFrame, mkF, argsToLocals, Value.category]; done) | rfl
set_option maxRecDepth 65536 in
set_option maxHeartbeats 40000000 in
theorem rm2 (l : Launch) (Z : State) (a0 : Array Value) (hw : ∀ d ∈ tables_1, d.before a0 Z = true) (a : Addr) (bu to : Int64) (h0 : Heap) (n0 : Nat) (Z0 : n0 ≤ h0.size) (E_a : Exa Z h0 a "com/example/forecache/forecache/MachineLoad$Ticks") (ha : n0 ≤ a) (F_busy : Fld Z h0 a "com/example/forecache/forecache/MachineLoad$Ticks" "busy" "J" (.long (0 : Int64))) (F_total : Fld Z h0 a "com/example/forecache/forecache/MachineLoad$Ticks" "total" "J" (.long (0 : Int64))) :
    Pays l (⟨"com/example/forecache/forecache/MachineLoad$Ticks", "<init>", "(JJ)V"⟩ : MethodName) prog_56_method_1_code 5 none ({ frames := 2, cells := 0, slots := 0, locals := 24 } : Room) Z #[(.ref a), (.long bu), (.long to)] h0 (fun v h L => v = none ∧ Fr n0 L ∧ Keep h0 h [a] ∧ Exa Z h a "com/example/forecache/forecache/MachineLoad$Ticks" ∧ Fld Z h a "com/example/forecache/forecache/MachineLoad$Ticks" "busy" "J" (.long bu) ∧ Fld Z h a "com/example/forecache/forecache/MachineLoad$Ticks" "total" "J" (.long to)) := by
  refine Pays.of (plainFor_of_name pn_com_example_forecache_forecache_MachineLoad_Ticks) ?_
  intro pP eE sS m below methM cC T hx hby hml hret hlk hZ hown hnm eT X
  replace hown : sS.vm.findClass "com/example/forecache/forecache/MachineLoad$Ticks" = some m.cls := hown
  have N0 := Fr.nil n0
  have K0 := Keep.refl h0 [a]
  refine Go.cast (ef_rm2 m a bu to) ?_
  refine Go.st (S' := T.setTop (mkF m 1 #[.val (.ref a), .val (.long bu), .second, .val (.long to), .second] [(.ref a)])) (fun t kt => XS.aloadN X.here hx rfl (hb hby d2_0) rfl rfl kt) ?_
  refine Go.init X hx hZ rfl hown (hw _ (List.mem_of_getElem? (i := 7) rfl)) (hw _ (List.mem_of_getElem? (i := 8) rfl)) (hw _ (List.mem_of_getElem? (i := 11) rfl)) (hw _ (List.mem_of_getElem? (i := 10) rfl)) (by decide) (b := a) (argsL := []) (rest := []) (rmRC l Z a0 hw a h0 n0 Z0) eT rfl (by rw [hml]; rfl) pd___V rfl (hb hby d2_1) 0 (Nat.le_refl _) (by decide) (by decide) (by decide) (by decide) ?_
  intro v1 T1 L1 X1 hQ1
  obtain ⟨hv1, N1', e1⟩ := hQ1
  subst hv1
  have N1 := Fr.app N0 N1'
  show Go pP eE below _ (T1.setTop (mkF m 4 #[.val (.ref a), .val (.long bu), .second, .val (.long to), .second] []))
  refine Go.st (S' := T1.setTop (mkF m 5 #[.val (.ref a), .val (.long bu), .second, .val (.long to), .second] [(.ref a)])) (fun t kt => XS.aloadN X1.here hx rfl (hb hby d2_4) rfl rfl kt) ?_
  refine Go.st (S' := T1.setTop (mkF m 6 #[.val (.ref a), .val (.long bu), .second, .val (.long to), .second] [(.long bu), (.ref a)])) (fun t kt => XT.lloadN X1.here hx rfl (hb hby d2_5) rfl kt) ?_
  obtain ⟨T2, h2, X2, e2, W2, st2⟩ := putF X1 hx hZ hown (host := "") (Or.inl (hw _ (List.mem_of_getElem? (i := 15) rfl))) Via.refl e1 F_busy E_a (Or.inr ⟨(hw _ (List.mem_of_getElem? (i := 16) rfl)), rfl, hnm⟩) (hw _ (List.mem_of_getElem? (i := 2) rfl)) (ty := .long) (by decide) rfl rfl (g := (mkF m 6 #[.val (.ref a), .val (.long bu), .second, .val (.long to), .second] [(.long bu), (.ref a)])) rfl rfl (hb hby d2_6)
  have F2 := Fld.same W2 F_busy
  have N2 := Fr.snoc X2 N1 ha
  have Z2 : n0 ≤ h2.size := by rw [Wr.size W2]; exact Z0
  have K2 := Keep.wr K0 W2 (Or.inl (List.mem_of_getElem? (i := 0) rfl))
  refine Go.st (S' := T2.setTop (mkF m 9 #[.val (.ref a), .val (.long bu), .second, .val (.long to), .second] [])) (fun t kt => st2 t kt) ?_
  refine Go.st (S' := T2.setTop (mkF m 10 #[.val (.ref a), .val (.long bu), .second, .val (.long to), .second] [(.ref a)])) (fun t kt => XS.aloadN X2.here hx rfl (hb hby d2_9) rfl rfl kt) ?_
  refine Go.st (S' := T2.setTop (mkF m 11 #[.val (.ref a), .val (.long bu), .second, .val (.long to), .second] [(.long to), (.ref a)])) (fun t kt => XT.lloadN X2.here hx rfl (hb hby d2_10) rfl kt) ?_
  have f3 := (Fld.other W2 F_total (Or.inr (slot_ne (Or.inr (hw _ (List.mem_of_getElem? (i := 18) rfl))) (Or.inr (hw _ (List.mem_of_getElem? (i := 16) rfl))) (by decide) (t := .long) (t' := .long) (by decide) (by decide))))
  have f4 := (Exa.wr W2 E_a)
  obtain ⟨T5, h5, X5, e5, W5, st5⟩ := putF X2 hx hZ hown (host := "") (Or.inl (hw _ (List.mem_of_getElem? (i := 17) rfl))) Via.refl e2 f3 f4 (Or.inr ⟨(hw _ (List.mem_of_getElem? (i := 18) rfl)), rfl, hnm⟩) (hw _ (List.mem_of_getElem? (i := 2) rfl)) (ty := .long) (by decide) rfl rfl (g := (mkF m 11 #[.val (.ref a), .val (.long bu), .second, .val (.long to), .second] [(.long to), (.ref a)])) rfl rfl (hb hby d2_11)
  have F5 := Fld.same W5 f3
  have N5 := Fr.snoc X5 N2 ha
  have Z5 : n0 ≤ h5.size := by rw [Wr.size W5]; exact Z2
  have K5 := Keep.wr K2 W5 (Or.inl (List.mem_of_getElem? (i := 0) rfl))
  refine Go.st (S' := T5.setTop (mkF m 14 #[.val (.ref a), .val (.long bu), .second, .val (.long to), .second] [])) (fun t kt => st5 t kt) ?_
  have f6 := (Exa.wr W5 f4)
  have f7 := (Fld.other W5 F2 (Or.inr (slot_ne (Or.inr (hw _ (List.mem_of_getElem? (i := 16) rfl))) (Or.inr (hw _ (List.mem_of_getElem? (i := 18) rfl))) (by decide) (t := .long) (t' := .long) (by decide) (by decide))))
  exact ret_v X5 hx hlk hret (hb hby d2_14) (by decide) (by decide) (by rw [e5]; exact ⟨rfl, N5, K5, f6, f7, F5⟩)
theorem own_nz {n : Int64} (h : 0 < n) (d : Int64) : Jvm.Free.Fl.NoNaN64 (FP.ddiv (FP.l2d d) (FP.l2d n)) :=
  Jvm.Free.Fl.ddiv_out (Jvm.Free.Fl.l2d_fin d).noNaN (Jvm.Free.Fl.l2d_fin n) (Jvm.Free.Fl.l2d_nz (fun q => by rw [q] at h; exact absurd h (by decide)))
theorem own_acs (a b : Int64) : a + b - a = b := by
  apply Int64.toInt_inj.mp
  have h1 := c_ladd a b; have h2 := c_lsub (a + b) a
  have r1 := rng64 (a + b); have r2 := rng64 (a + b - a); have r3 := rng64 b
  omega
theorem own_sac (a b : Int64) : a - (a + b) = -b := by
  apply Int64.toInt_inj.mp
  have h1 := c_ladd a b; have h2 := c_lsub a (a + b); have h3 := c_lneg b
  have r1 := rng64 (a + b); have r2 := rng64 (a - (a + b)); have r3 := rng64 (-b); have r4 := rng64 b
  omega
theorem own_nan {x : UInt64} (h : x = (9221120237041090560 : UInt64)) : ¬ cmpValue (FP.dcmp x x) .l = 0 := by
  subst h; decide +kernel
/-- what busySince gives -/
def own_bs (d n : Int64) : UInt64 := if 0 < n then FP.ddiv (FP.l2d d) (FP.l2d n) else (9221120237041090560 : UInt64)
theorem own_neg_of_pos {p1 : Int64} {n : Int64} (h : 0 < n) : ¬ 0 < -n := by
  rw [Int64.lt_iff_toInt_lt] at h ⊢
  have e : (0 : Int64).toInt = 0 := rfl
  have h3 := c_lneg n; have r3 := rng64 (-n); have r4 := rng64 n
  omega
theorem own_pos_of_neg {x : Int64} (h : (x >>> ((1 : Int32).toInt64 &&& 63)) < 0) : 0 < -(x >>> ((1 : Int32).toInt64 &&& 63)) := by
  have e2 : (x >>> ((1 : Int32).toInt64 &&& 63)).toInt = x.toInt / 2 := c_lshr x 1 1 (by decide)
  rw [Int64.lt_iff_toInt_lt] at h ⊢
  have e : (0 : Int64).toInt = 0 := rfl
  have h3 := c_lneg (x >>> ((1 : Int32).toInt64 &&& 63)); have r3 := rng64 (-(x >>> ((1 : Int32).toInt64 &&& 63))); have r4 := rng64 x
  omega
theorem own_zero {n : Int64} (h1 : ¬ 0 < n) (h2 : ¬ n < 0) : ¬ 0 < -n := by
  rw [Int64.lt_iff_toInt_lt] at h1 h2 ⊢
  have e : (0 : Int64).toInt = 0 := rfl
  have h3 := c_lneg n; have r3 := rng64 (-n); have r4 := rng64 n
  omega
theorem d3_0 : decode prog_56_method_2_code 0 = .ok (.aload_n 0, 1) := by decide +kernel
theorem d3_1 : decode prog_56_method_2_code 1 = .ok (.getfield 13, 3) := by decide +kernel
theorem d3_4 : decode prog_56_method_2_code 4 = .ok (.aload_n 1, 1) := by decide +kernel
theorem d3_5 : decode prog_56_method_2_code 5 = .ok (.getfield 13, 3) := by decide +kernel
theorem d3_8 : decode prog_56_method_2_code 8 = .ok (.lsub, 1) := by decide +kernel
theorem d3_9 : decode prog_56_method_2_code 9 = .ok (.lstore_n 2, 1) := by decide +kernel
theorem d3_10 : decode prog_56_method_2_code 10 = .ok (.lload_n 2, 1) := by decide +kernel
theorem d3_11 : decode prog_56_method_2_code 11 = .ok (.lconst 0, 1) := by decide +kernel
theorem d3_12 : decode prog_56_method_2_code 12 = .ok (.lcmp, 1) := by decide +kernel
theorem d3_13 : decode prog_56_method_2_code 13 = .ok (.ifCond .gt 9, 3) := by decide +kernel
theorem d3_16 : decode prog_56_method_2_code 16 = .ok (.ldc2_w 18, 3) := by decide +kernel
theorem d3_19 : decode prog_56_method_2_code 19 = .ok (.goto 16, 3) := by decide +kernel
theorem d3_22 : decode prog_56_method_2_code 22 = .ok (.aload_n 0, 1) := by decide +kernel
theorem d3_23 : decode prog_56_method_2_code 23 = .ok (.getfield 7, 3) := by decide +kernel
theorem d3_26 : decode prog_56_method_2_code 26 = .ok (.aload_n 1, 1) := by decide +kernel
theorem d3_27 : decode prog_56_method_2_code 27 = .ok (.getfield 7, 3) := by decide +kernel
theorem d3_30 : decode prog_56_method_2_code 30 = .ok (.lsub, 1) := by decide +kernel
theorem d3_31 : decode prog_56_method_2_code 31 = .ok (.l2d, 1) := by decide +kernel
theorem d3_32 : decode prog_56_method_2_code 32 = .ok (.lload_n 2, 1) := by decide +kernel
theorem d3_33 : decode prog_56_method_2_code 33 = .ok (.l2d, 1) := by decide +kernel
theorem d3_34 : decode prog_56_method_2_code 34 = .ok (.ddiv, 1) := by decide +kernel
theorem d3_35 : decode prog_56_method_2_code 35 = .ok (.dreturn, 1) := by decide +kernel
theorem ef_rm3 (m : MethodId) (a : Addr) (b : Addr) : entryFrame m #[(.ref a), (.ref b)] 4 = mkF m 0 #[.val (.ref a), .val (.ref b), .unset, .unset] [] := by first | exact own_entry rfl | (simp [entryFrame, mkF, argsToLocals, Value.category]; done) | rfl
set_option maxRecDepth 65536 in
set_option maxHeartbeats 40000000 in
theorem rm3 (l : Launch) (Z : State) (a0 : Array Value) (hw : ∀ d ∈ tables_1, d.before a0 Z = true) (a b : Addr) (ba ta bb tb : Int64) (r : UInt64) (h0 : Heap) (n0 : Nat) (Z0 : n0 ≤ h0.size) (F_abusy : Fld Z h0 a "com/example/forecache/forecache/MachineLoad$Ticks" "busy" "J" (.long ba)) (F_atotal : Fld Z h0 a "com/example/forecache/forecache/MachineLoad$Ticks" "total" "J" (.long ta)) (F_bbusy : Fld Z h0 b "com/example/forecache/forecache/MachineLoad$Ticks" "busy" "J" (.long bb)) (F_btotal : Fld Z h0 b "com/example/forecache/forecache/MachineLoad$Ticks" "total" "J" (.long tb)) (hr : r = own_bs (ba - bb) (ta - tb)) :
    Pays l (⟨"com/example/forecache/forecache/MachineLoad$Ticks", "busySince", "(Lcom/example/forecache/forecache/MachineLoad$Ticks;)D"⟩ : MethodName) prog_56_method_2_code 4 (some .double) ({ frames := 0, cells := 0, slots := 0, locals := 0 } : Room) Z #[(.ref a), (.ref b)] h0 (fun v h L => v = some (.double r) ∧ Fr n0 L ∧ h = h0) := by
  refine Pays.of (plainFor_of_name pn_com_example_forecache_forecache_MachineLoad_Ticks) ?_
  intro pP eE sS m below methM cC T hx hby hml hret hlk hZ hown hnm eT X
  replace hown : sS.vm.findClass "com/example/forecache/forecache/MachineLoad$Ticks" = some m.cls := hown
  have N0 := Fr.nil n0
  refine Go.cast (ef_rm3 m a b) ?_
  refine Go.st (S' := T.setTop (mkF m 1 #[.val (.ref a), .val (.ref b), .unset, .unset] [(.ref a)])) (fun t kt => XS.aloadN X.here hx rfl (hb hby d3_0) rfl rfl kt) ?_
  obtain ⟨T1, X1, e1, st1⟩ := getF X hx hZ hown (host := "") (Or.inl (hw _ (List.mem_of_getElem? (i := 17) rfl))) Via.refl eT F_atotal (g := (mkF m 1 #[.val (.ref a), .val (.ref b), .unset, .unset] [(.ref a)])) rfl rfl (hb hby d3_1)
  refine Go.st (S' := T1.setTop (mkF m 4 #[.val (.ref a), .val (.ref b), .unset, .unset] [(.long ta)])) (fun t kt => st1 t kt) ?_
  refine Go.st (S' := T1.setTop (mkF m 5 #[.val (.ref a), .val (.ref b), .unset, .unset] [(.ref b), (.long ta)])) (fun t kt => XS.aloadN X1.here hx rfl (hb hby d3_4) rfl rfl kt) ?_
  obtain ⟨T2, X2, e2, st2⟩ := getF X1 hx hZ hown (host := "") (Or.inl (hw _ (List.mem_of_getElem? (i := 17) rfl))) Via.refl e1 F_btotal (g := (mkF m 5 #[.val (.ref a), .val (.ref b), .unset, .unset] [(.ref b), (.long ta)])) rfl rfl (hb hby d3_5)
  refine Go.st (S' := T2.setTop (mkF m 8 #[.val (.ref a), .val (.ref b), .unset, .unset] [(.long tb), (.long ta)])) (fun t kt => st2 t kt) ?_
  refine Go.st (S' := T2.setTop (mkF m 9 #[.val (.ref a), .val (.ref b), .unset, .unset] [(.long (ta - tb))])) (fun t kt => XT.lsub X2.here hx rfl (hb hby d3_8) rfl kt) ?_
  refine Go.st (S' := T2.setTop (mkF m 10 #[.val (.ref a), .val (.ref b), .val (.long (ta - tb)), .second] [])) (fun t kt => XT.lstoreN X2.here hx rfl (hb hby d3_9) rfl rfl kt) ?_
  refine Go.st (S' := T2.setTop (mkF m 11 #[.val (.ref a), .val (.ref b), .val (.long (ta - tb)), .second] [(.long (ta - tb))])) (fun t kt => XT.lloadN X2.here hx rfl (hb hby d3_10) rfl kt) ?_
  refine Go.st (S' := T2.setTop (mkF m 12 #[.val (.ref a), .val (.ref b), .val (.long (ta - tb)), .second] [(.long (0 : Int64)), (.long (ta - tb))])) (fun t kt => XT.lconstV X2.here hx rfl (0 : Int64) (hb hby d3_11) (by decide) kt) ?_
  refine Go.st (S' := T2.setTop (mkF m 13 #[.val (.ref a), .val (.ref b), .val (.long (ta - tb)), .second] [(.int (XT.cmpL (ta - tb) (0 : Int64)))])) (fun t kt => XT.lcmp X2.here hx rfl (hb hby d3_12) rfl kt) ?_
  by_cases hc13_3 : (0 : Int64) < (ta - tb)
  · refine Go.st (S' := T2.setTop (mkF m 22 #[.val (.ref a), .val (.ref b), .val (.long (ta - tb)), .second] [])) (fun t kt => XS.ifYes X2.here hx rfl (pc0 := 13) (pc' := 22) rfl (hb hby d3_13) rfl (XT.ll_gt_t hc13_3) (by decide) (by decide) kt) ?_
    refine Go.st (S' := T2.setTop (mkF m 23 #[.val (.ref a), .val (.ref b), .val (.long (ta - tb)), .second] [(.ref a)])) (fun t kt => XS.aloadN X2.here hx rfl (hb hby d3_22) rfl rfl kt) ?_
    obtain ⟨T4, X4, e4, st4⟩ := getF X2 hx hZ hown (host := "") (Or.inl (hw _ (List.mem_of_getElem? (i := 15) rfl))) Via.refl e2 F_abusy (g := (mkF m 23 #[.val (.ref a), .val (.ref b), .val (.long (ta - tb)), .second] [(.ref a)])) rfl rfl (hb hby d3_23)
    refine Go.st (S' := T4.setTop (mkF m 26 #[.val (.ref a), .val (.ref b), .val (.long (ta - tb)), .second] [(.long ba)])) (fun t kt => st4 t kt) ?_
    refine Go.st (S' := T4.setTop (mkF m 27 #[.val (.ref a), .val (.ref b), .val (.long (ta - tb)), .second] [(.ref b), (.long ba)])) (fun t kt => XS.aloadN X4.here hx rfl (hb hby d3_26) rfl rfl kt) ?_
    obtain ⟨T5, X5, e5, st5⟩ := getF X4 hx hZ hown (host := "") (Or.inl (hw _ (List.mem_of_getElem? (i := 15) rfl))) Via.refl e4 F_bbusy (g := (mkF m 27 #[.val (.ref a), .val (.ref b), .val (.long (ta - tb)), .second] [(.ref b), (.long ba)])) rfl rfl (hb hby d3_27)
    refine Go.st (S' := T5.setTop (mkF m 30 #[.val (.ref a), .val (.ref b), .val (.long (ta - tb)), .second] [(.long bb), (.long ba)])) (fun t kt => st5 t kt) ?_
    refine Go.st (S' := T5.setTop (mkF m 31 #[.val (.ref a), .val (.ref b), .val (.long (ta - tb)), .second] [(.long (ba - bb))])) (fun t kt => XT.lsub X5.here hx rfl (hb hby d3_30) rfl kt) ?_
    refine Go.st (S' := T5.setTop (mkF m 32 #[.val (.ref a), .val (.ref b), .val (.long (ta - tb)), .second] [(.double (FP.l2d (ba - bb)))])) (fun t kt => XS.l2dS X5.here hx rfl (hb hby d3_31) rfl rfl kt) ?_
    refine Go.st (S' := T5.setTop (mkF m 33 #[.val (.ref a), .val (.ref b), .val (.long (ta - tb)), .second] [(.long (ta - tb)), (.double (FP.l2d (ba - bb)))])) (fun t kt => XT.lloadN X5.here hx rfl (hb hby d3_32) rfl kt) ?_
    refine Go.st (S' := T5.setTop (mkF m 34 #[.val (.ref a), .val (.ref b), .val (.long (ta - tb)), .second] [(.double (FP.l2d (ta - tb))), (.double (FP.l2d (ba - bb)))])) (fun t kt => XS.l2dS X5.here hx rfl (hb hby d3_33) rfl rfl kt) ?_
    refine Go.st (S' := T5.setTop (mkF m 35 #[.val (.ref a), .val (.ref b), .val (.long (ta - tb)), .second] [(.double (FP.ddiv (FP.l2d (ba - bb)) (FP.l2d (ta - tb))))])) (fun t kt => XS.ddivS X5.here hx rfl (hb hby d3_34) rfl (own_nz hc13_3 _) rfl kt) ?_
    exact ret_d X5 hx hlk hret (hb hby d3_35) (by decide) (by decide) (⟨by rw [hr]; unfold own_bs; rw [if_pos hc13_3], N0, e5⟩)
  · refine Go.st (S' := T2.setTop (mkF m 16 #[.val (.ref a), .val (.ref b), .val (.long (ta - tb)), .second] [])) (fun t kt => XS.ifNo X2.here hx rfl (hb hby d3_13) rfl (XT.ll_gt_f hc13_3) kt) ?_
    refine Go.st (S' := T2.setTop (mkF m 19 #[.val (.ref a), .val (.ref b), .val (.long (ta - tb)), .second] [(.double (9221120237041090560 : UInt64))])) (fun t kt => X2.ldc2DoubleC hx hown (mv hZ (hw _ (List.mem_of_getElem? (i := 24) rfl))) (g := (mkF m 16 #[.val (.ref a), .val (.ref b), .val (.long (ta - tb)), .second] [])) rfl (hb hby d3_16) t kt) ?_
    refine Go.st (S' := T2.setTop (mkF m 35 #[.val (.ref a), .val (.ref b), .val (.long (ta - tb)), .second] [(.double (9221120237041090560 : UInt64))])) (fun t kt => XS.goto X2.here hx rfl (pc0 := 19) (pc' := 35) rfl (hb hby d3_19) (by decide) (by decide) kt) ?_
    exact ret_d X2 hx hlk hret (hb hby d3_35) (by decide) (by decide) (⟨by rw [hr]; unfold own_bs; rw [if_neg hc13_3], N0, e2⟩)
theorem own_same {x y : UInt64} (h : x = y) (n : Jvm.Free.Fl.NoNaN64 y) : cmpValue (FP.dcmp x y) .l = 0 := dcmpV_eq h (h ▸ n) .l
theorem pd__JJ_V : parseMethodDescriptor "(JJ)V" = some ⟨[.long, .long], none⟩ := by decide +kernel
theorem pd__Lcom_example_forecache_forecache_MachineLoad_Ticks__D : parseMethodDescriptor "(Lcom/example/forecache/forecache/MachineLoad$Ticks;)D" = some ⟨[(.object "com/example/forecache/forecache/MachineLoad$Ticks")], some .double⟩ := by decide +kernel
theorem pn_com_example_forecache_forecache_TicksBusySincePinLaw : plainName "com/example/forecache/forecache/TicksBusySincePinLaw" = true := by first | (simp [plainName, overriddenIn]; done) | decide +kernel
theorem ef_rm0 (m : MethodId) (p0 : Int64) (p1 : Int64) (p2 : Int64) (p3 : Int64) : entryFrame m #[(.long p0), (.long p1), (.long p2), (.long p3)] maxLocals = mkF m 0 #[.val (.long p0), .second, .val (.long p1), .second, .val (.long p2), .second, .val (.long p3), .second, .unset, .unset, .unset, .unset, .unset, .unset, .unset, .unset, .unset, .unset, .unset, .unset, .unset, .unset] [] := by first | exact own_entry rfl | (simp [entryFrame, mkF, argsToLocals, Value.category, maxLocals]; done) | rfl
set_option maxRecDepth 65536 in
set_option maxHeartbeats 40000000 in
theorem rm0 (l : Launch) (Z : State) (a0 : Array Value) (hw : ∀ d ∈ tables_1, d.before a0 Z = true) (p0 p1 p2 p3 : Int64) (h0 : Heap) (n0 : Nat) (Z0 : n0 ≤ h0.size) :
    Pays l x code maxLocals ret room_1 Z #[(.long p0), (.long p1), (.long p2), (.long p3)] h0 (fun v h L => v = some (.int 1) ∧ Fr n0 L) := by
  refine Pays.of (plainFor_of_name pn_com_example_forecache_forecache_TicksBusySincePinLaw) ?_
  intro pP eE sS m below methM cC T hx hby hml hret hlk hZ hown hnm eT X
  replace hown : sS.vm.findClass "com/example/forecache/forecache/TicksBusySincePinLaw" = some m.cls := hown
  have N0 := Fr.nil n0
  refine Go.cast (ef_rm0 m p0 p1 p2 p3) ?_
  refine Go.st (S' := T.setTop (mkF m 1 #[.val (.long p0), .second, .val (.long p1), .second, .val (.long p2), .second, .val (.long p3), .second, .unset, .unset, .unset, .unset, .unset, .unset, .unset, .unset, .unset, .unset, .unset, .unset, .unset, .unset] [(.long p0)])) (fun t kt => XT.lloadN X.here hx rfl (hb hby at_0) rfl kt) ?_
  refine Go.st (S' := T.setTop (mkF m 4 #[.val (.long p0), .second, .val (.long p1), .second, .val (.long p2), .second, .val (.long p3), .second, .unset, .unset, .unset, .unset, .unset, .unset, .unset, .unset, .unset, .unset, .unset, .unset, .unset, .unset] [(.long (9223372036854775807 : Int64)), (.long p0)])) (fun t kt => X.ldc2J hx hown (mv hZ (hw _ (List.mem_of_getElem? (i := 0) rfl))) rfl (hb hby at_1) kt) ?_
  refine Go.st (S' := T.setTop (mkF m 5 #[.val (.long p0), .second, .val (.long p1), .second, .val (.long p2), .second, .val (.long p3), .second, .unset, .unset, .unset, .unset, .unset, .unset, .unset, .unset, .unset, .unset, .unset, .unset, .unset, .unset] [(.long (p0 &&& (9223372036854775807 : Int64)))])) (fun t kt => XT.land X.here hx rfl (hb hby at_4) rfl kt) ?_
  refine Go.st (S' := T.setTop (mkF m 6 #[.val (.long p0), .second, .val (.long p1), .second, .val (.long p2), .second, .val (.long p3), .second, .unset, .unset, .unset, .unset, .unset, .unset, .unset, .unset, .unset, .unset, .unset, .unset, .unset, .unset] [(.int (1 : Int32)), (.long (p0 &&& (9223372036854775807 : Int64)))])) (fun t kt => XS.iconst X.here hx rfl (hb hby at_5) kt) ?_
  refine Go.st (S' := T.setTop (mkF m 7 #[.val (.long p0), .second, .val (.long p1), .second, .val (.long p2), .second, .val (.long p3), .second, .unset, .unset, .unset, .unset, .unset, .unset, .unset, .unset, .unset, .unset, .unset, .unset, .unset, .unset] [(.long (XT.ushrL (p0 &&& (9223372036854775807 : Int64)) (1 : Int32)))])) (fun t kt => XT.lushr X.here hx rfl (hb hby at_6) rfl kt) ?_
  refine Go.st (S' := T.setTop (mkF m 9 #[.val (.long p0), .second, .val (.long p1), .second, .val (.long p2), .second, .val (.long p3), .second, .val (.long (XT.ushrL (p0 &&& (9223372036854775807 : Int64)) (1 : Int32))), .second, .unset, .unset, .unset, .unset, .unset, .unset, .unset, .unset, .unset, .unset, .unset, .unset] [])) (fun t kt => XT.lstore X.here hx rfl (hb hby at_7) rfl rfl kt) ?_
  refine Go.st (S' := T.setTop (mkF m 10 #[.val (.long p0), .second, .val (.long p1), .second, .val (.long p2), .second, .val (.long p3), .second, .val (.long (XT.ushrL (p0 &&& (9223372036854775807 : Int64)) (1 : Int32))), .second, .unset, .unset, .unset, .unset, .unset, .unset, .unset, .unset, .unset, .unset, .unset, .unset] [(.long p1)])) (fun t kt => XT.lloadN X.here hx rfl (hb hby at_9) rfl kt) ?_
  refine Go.st (S' := T.setTop (mkF m 11 #[.val (.long p0), .second, .val (.long p1), .second, .val (.long p2), .second, .val (.long p3), .second, .val (.long (XT.ushrL (p0 &&& (9223372036854775807 : Int64)) (1 : Int32))), .second, .unset, .unset, .unset, .unset, .unset, .unset, .unset, .unset, .unset, .unset, .unset, .unset] [(.int (1 : Int32)), (.long p1)])) (fun t kt => XS.iconst X.here hx rfl (hb hby at_10) kt) ?_
  refine Go.st (S' := T.setTop (mkF m 12 #[.val (.long p0), .second, .val (.long p1), .second, .val (.long p2), .second, .val (.long p3), .second, .val (.long (XT.ushrL (p0 &&& (9223372036854775807 : Int64)) (1 : Int32))), .second, .unset, .unset, .unset, .unset, .unset, .unset, .unset, .unset, .unset, .unset, .unset, .unset] [(.long (p1 >>> ((1 : Int32).toInt64 &&& 63)))])) (fun t kt => XT.lshr X.here hx rfl (hb hby at_11) rfl kt) ?_
  refine Go.st (S' := T.setTop (mkF m 14 #[.val (.long p0), .second, .val (.long p1), .second, .val (.long p2), .second, .val (.long p3), .second, .val (.long (XT.ushrL (p0 &&& (9223372036854775807 : Int64)) (1 : Int32))), .second, .val (.long (p1 >>> ((1 : Int32).toInt64 &&& 63))), .second, .unset, .unset, .unset, .unset, .unset, .unset, .unset, .unset, .unset, .unset] [])) (fun t kt => XT.lstore X.here hx rfl (hb hby at_12) rfl rfl kt) ?_
  refine Go.st (S' := T.setTop (mkF m 16 #[.val (.long p0), .second, .val (.long p1), .second, .val (.long p2), .second, .val (.long p3), .second, .val (.long (XT.ushrL (p0 &&& (9223372036854775807 : Int64)) (1 : Int32))), .second, .val (.long (p1 >>> ((1 : Int32).toInt64 &&& 63))), .second, .unset, .unset, .unset, .unset, .unset, .unset, .unset, .unset, .unset, .unset] [(.long p2)])) (fun t kt => XT.lload X.here hx rfl (hb hby at_14) rfl kt) ?_
  refine Go.st (S' := T.setTop (mkF m 19 #[.val (.long p0), .second, .val (.long p1), .second, .val (.long p2), .second, .val (.long p3), .second, .val (.long (XT.ushrL (p0 &&& (9223372036854775807 : Int64)) (1 : Int32))), .second, .val (.long (p1 >>> ((1 : Int32).toInt64 &&& 63))), .second, .unset, .unset, .unset, .unset, .unset, .unset, .unset, .unset, .unset, .unset] [(.long (9223372036854775807 : Int64)), (.long p2)])) (fun t kt => X.ldc2J hx hown (mv hZ (hw _ (List.mem_of_getElem? (i := 0) rfl))) rfl (hb hby at_16) kt) ?_
  refine Go.st (S' := T.setTop (mkF m 20 #[.val (.long p0), .second, .val (.long p1), .second, .val (.long p2), .second, .val (.long p3), .second, .val (.long (XT.ushrL (p0 &&& (9223372036854775807 : Int64)) (1 : Int32))), .second, .val (.long (p1 >>> ((1 : Int32).toInt64 &&& 63))), .second, .unset, .unset, .unset, .unset, .unset, .unset, .unset, .unset, .unset, .unset] [(.long (p2 &&& (9223372036854775807 : Int64)))])) (fun t kt => XT.land X.here hx rfl (hb hby at_19) rfl kt) ?_
  refine Go.st (S' := T.setTop (mkF m 21 #[.val (.long p0), .second, .val (.long p1), .second, .val (.long p2), .second, .val (.long p3), .second, .val (.long (XT.ushrL (p0 &&& (9223372036854775807 : Int64)) (1 : Int32))), .second, .val (.long (p1 >>> ((1 : Int32).toInt64 &&& 63))), .second, .unset, .unset, .unset, .unset, .unset, .unset, .unset, .unset, .unset, .unset] [(.int (1 : Int32)), (.long (p2 &&& (9223372036854775807 : Int64)))])) (fun t kt => XS.iconst X.here hx rfl (hb hby at_20) kt) ?_
  refine Go.st (S' := T.setTop (mkF m 22 #[.val (.long p0), .second, .val (.long p1), .second, .val (.long p2), .second, .val (.long p3), .second, .val (.long (XT.ushrL (p0 &&& (9223372036854775807 : Int64)) (1 : Int32))), .second, .val (.long (p1 >>> ((1 : Int32).toInt64 &&& 63))), .second, .unset, .unset, .unset, .unset, .unset, .unset, .unset, .unset, .unset, .unset] [(.long (XT.ushrL (p2 &&& (9223372036854775807 : Int64)) (1 : Int32)))])) (fun t kt => XT.lushr X.here hx rfl (hb hby at_21) rfl kt) ?_
  refine Go.st (S' := T.setTop (mkF m 24 #[.val (.long p0), .second, .val (.long p1), .second, .val (.long p2), .second, .val (.long p3), .second, .val (.long (XT.ushrL (p0 &&& (9223372036854775807 : Int64)) (1 : Int32))), .second, .val (.long (p1 >>> ((1 : Int32).toInt64 &&& 63))), .second, .val (.long (XT.ushrL (p2 &&& (9223372036854775807 : Int64)) (1 : Int32))), .second, .unset, .unset, .unset, .unset, .unset, .unset, .unset, .unset] [])) (fun t kt => XT.lstore X.here hx rfl (hb hby at_22) rfl rfl kt) ?_
  refine Go.st (S' := T.setTop (mkF m 26 #[.val (.long p0), .second, .val (.long p1), .second, .val (.long p2), .second, .val (.long p3), .second, .val (.long (XT.ushrL (p0 &&& (9223372036854775807 : Int64)) (1 : Int32))), .second, .val (.long (p1 >>> ((1 : Int32).toInt64 &&& 63))), .second, .val (.long (XT.ushrL (p2 &&& (9223372036854775807 : Int64)) (1 : Int32))), .second, .unset, .unset, .unset, .unset, .unset, .unset, .unset, .unset] [(.long p3)])) (fun t kt => XT.lload X.here hx rfl (hb hby at_24) rfl kt) ?_
  refine Go.st (S' := T.setTop (mkF m 27 #[.val (.long p0), .second, .val (.long p1), .second, .val (.long p2), .second, .val (.long p3), .second, .val (.long (XT.ushrL (p0 &&& (9223372036854775807 : Int64)) (1 : Int32))), .second, .val (.long (p1 >>> ((1 : Int32).toInt64 &&& 63))), .second, .val (.long (XT.ushrL (p2 &&& (9223372036854775807 : Int64)) (1 : Int32))), .second, .unset, .unset, .unset, .unset, .unset, .unset, .unset, .unset] [(.int (1 : Int32)), (.long p3)])) (fun t kt => XS.iconst X.here hx rfl (hb hby at_26) kt) ?_
  refine Go.st (S' := T.setTop (mkF m 28 #[.val (.long p0), .second, .val (.long p1), .second, .val (.long p2), .second, .val (.long p3), .second, .val (.long (XT.ushrL (p0 &&& (9223372036854775807 : Int64)) (1 : Int32))), .second, .val (.long (p1 >>> ((1 : Int32).toInt64 &&& 63))), .second, .val (.long (XT.ushrL (p2 &&& (9223372036854775807 : Int64)) (1 : Int32))), .second, .unset, .unset, .unset, .unset, .unset, .unset, .unset, .unset] [(.long (p3 >>> ((1 : Int32).toInt64 &&& 63)))])) (fun t kt => XT.lshr X.here hx rfl (hb hby at_27) rfl kt) ?_
  refine Go.st (S' := T.setTop (mkF m 30 #[.val (.long p0), .second, .val (.long p1), .second, .val (.long p2), .second, .val (.long p3), .second, .val (.long (XT.ushrL (p0 &&& (9223372036854775807 : Int64)) (1 : Int32))), .second, .val (.long (p1 >>> ((1 : Int32).toInt64 &&& 63))), .second, .val (.long (XT.ushrL (p2 &&& (9223372036854775807 : Int64)) (1 : Int32))), .second, .val (.long (p3 >>> ((1 : Int32).toInt64 &&& 63))), .second, .unset, .unset, .unset, .unset, .unset, .unset] [])) (fun t kt => XT.lstore X.here hx rfl (hb hby at_28) rfl rfl kt) ?_
  obtain ⟨T1, h1, X1, e1, E1, A1, D1, -, st1⟩ := newO X hx hZ hown (hw _ (List.mem_of_getElem? (i := 1) rfl)) (hw _ (List.mem_of_getElem? (i := 2) rfl)) (hw _ (List.mem_of_getElem? (i := 3) rfl)) eT (g := (mkF m 30 #[.val (.long p0), .second, .val (.long p1), .second, .val (.long p2), .second, .val (.long p3), .second, .val (.long (XT.ushrL (p0 &&& (9223372036854775807 : Int64)) (1 : Int32))), .second, .val (.long (p1 >>> ((1 : Int32).toInt64 &&& 63))), .second, .val (.long (XT.ushrL (p2 &&& (9223372036854775807 : Int64)) (1 : Int32))), .second, .val (.long (p3 >>> ((1 : Int32).toInt64 &&& 63))), .second, .unset, .unset, .unset, .unset, .unset, .unset] [])) rfl (hb hby at_30) (by decide) (by decide)
  obtain ⟨a1, g1⟩ : ∃ z, z = h0.size := ⟨_, rfl⟩
  rw [← g1] at A1 D1 st1
  have Z1 : n0 ≤ h1.size := Nat.le_trans Z0 E1.1
  have F1_busy : Fld Z h1 a1 "com/example/forecache/forecache/MachineLoad$Ticks" "busy" "J" (.long (0 : Int64)) := D1 (Or.inr (hw _ (List.mem_of_getElem? (i := 16) rfl))) (ty := .long) (by decide)
  have F1_total : Fld Z h1 a1 "com/example/forecache/forecache/MachineLoad$Ticks" "total" "J" (.long (0 : Int64)) := D1 (Or.inr (hw _ (List.mem_of_getElem? (i := 18) rfl))) (ty := .long) (by decide)
  refine Go.st (S' := T1.setTop (mkF m 33 #[.val (.long p0), .second, .val (.long p1), .second, .val (.long p2), .second, .val (.long p3), .second, .val (.long (XT.ushrL (p0 &&& (9223372036854775807 : Int64)) (1 : Int32))), .second, .val (.long (p1 >>> ((1 : Int32).toInt64 &&& 63))), .second, .val (.long (XT.ushrL (p2 &&& (9223372036854775807 : Int64)) (1 : Int32))), .second, .val (.long (p3 >>> ((1 : Int32).toInt64 &&& 63))), .second, .unset, .unset, .unset, .unset, .unset, .unset] [(.ref a1)])) (fun t kt => st1 t kt) ?_
  refine Go.st (S' := T1.setTop (mkF m 34 #[.val (.long p0), .second, .val (.long p1), .second, .val (.long p2), .second, .val (.long p3), .second, .val (.long (XT.ushrL (p0 &&& (9223372036854775807 : Int64)) (1 : Int32))), .second, .val (.long (p1 >>> ((1 : Int32).toInt64 &&& 63))), .second, .val (.long (XT.ushrL (p2 &&& (9223372036854775807 : Int64)) (1 : Int32))), .second, .val (.long (p3 >>> ((1 : Int32).toInt64 &&& 63))), .second, .unset, .unset, .unset, .unset, .unset, .unset] [(.ref a1), (.ref a1)])) (fun t kt => XS.dup X1.here hx rfl (hb hby at_33) rfl rfl kt) ?_
  refine Go.st (S' := T1.setTop (mkF m 36 #[.val (.long p0), .second, .val (.long p1), .second, .val (.long p2), .second, .val (.long p3), .second, .val (.long (XT.ushrL (p0 &&& (9223372036854775807 : Int64)) (1 : Int32))), .second, .val (.long (p1 >>> ((1 : Int32).toInt64 &&& 63))), .second, .val (.long (XT.ushrL (p2 &&& (9223372036854775807 : Int64)) (1 : Int32))), .second, .val (.long (p3 >>> ((1 : Int32).toInt64 &&& 63))), .second, .unset, .unset, .unset, .unset, .unset, .unset] [(.long (XT.ushrL (p2 &&& (9223372036854775807 : Int64)) (1 : Int32))), (.ref a1), (.ref a1)])) (fun t kt => XT.lload X1.here hx rfl (hb hby at_34) rfl kt) ?_
  refine Go.st (S' := T1.setTop (mkF m 38 #[.val (.long p0), .second, .val (.long p1), .second, .val (.long p2), .second, .val (.long p3), .second, .val (.long (XT.ushrL (p0 &&& (9223372036854775807 : Int64)) (1 : Int32))), .second, .val (.long (p1 >>> ((1 : Int32).toInt64 &&& 63))), .second, .val (.long (XT.ushrL (p2 &&& (9223372036854775807 : Int64)) (1 : Int32))), .second, .val (.long (p3 >>> ((1 : Int32).toInt64 &&& 63))), .second, .unset, .unset, .unset, .unset, .unset, .unset] [(.long (XT.ushrL (p0 &&& (9223372036854775807 : Int64)) (1 : Int32))), (.long (XT.ushrL (p2 &&& (9223372036854775807 : Int64)) (1 : Int32))), (.ref a1), (.ref a1)])) (fun t kt => XT.lload X1.here hx rfl (hb hby at_36) rfl kt) ?_
  refine Go.init X1 hx hZ rfl hown (hw _ (List.mem_of_getElem? (i := 4) rfl)) (hw _ (List.mem_of_getElem? (i := 5) rfl)) (hw _ (List.mem_of_getElem? (i := 6) rfl)) (hw _ (List.mem_of_getElem? (i := 3) rfl)) (by decide) (b := a1) (argsL := [(.long (XT.ushrL (p2 &&& (9223372036854775807 : Int64)) (1 : Int32))), (.long (XT.ushrL (p0 &&& (9223372036854775807 : Int64)) (1 : Int32)))]) (rest := [(.ref a1)]) (rm2 l Z a0 hw a1 (XT.ushrL (p2 &&& (9223372036854775807 : Int64)) (1 : Int32)) (XT.ushrL (p0 &&& (9223372036854775807 : Int64)) (1 : Int32)) h1 n0 Z1 A1 (Nat.le_trans Z0 (Nat.le_of_eq g1.symm)) F1_busy F1_total) e1 rfl (by rw [hml]; rfl) pd__JJ_V rfl (hb hby at_38) 1 (Nat.le_refl _) (by decide) (by decide) (by decide) (by decide) ?_
  intro v2 T2 L2 X2 hQ2
  obtain ⟨hv2, N2', K2', f2_0, f2_1, f2_2⟩ := hQ2
  subst hv2
  have N2 := Fr.app N0 N2'
  have Z2 : n0 ≤ T2.heap.size := Nat.le_trans Z1 K2'.1
  have eh2 : T2.heap = T2.heap := rfl
  show Go pP eE below _ (T2.setTop (mkF m 41 #[.val (.long p0), .second, .val (.long p1), .second, .val (.long p2), .second, .val (.long p3), .second, .val (.long (XT.ushrL (p0 &&& (9223372036854775807 : Int64)) (1 : Int32))), .second, .val (.long (p1 >>> ((1 : Int32).toInt64 &&& 63))), .second, .val (.long (XT.ushrL (p2 &&& (9223372036854775807 : Int64)) (1 : Int32))), .second, .val (.long (p3 >>> ((1 : Int32).toInt64 &&& 63))), .second, .unset, .unset, .unset, .unset, .unset, .unset] [(.ref a1)]))
  refine Go.st (S' := T2.setTop (mkF m 43 #[.val (.long p0), .second, .val (.long p1), .second, .val (.long p2), .second, .val (.long p3), .second, .val (.long (XT.ushrL (p0 &&& (9223372036854775807 : Int64)) (1 : Int32))), .second, .val (.long (p1 >>> ((1 : Int32).toInt64 &&& 63))), .second, .val (.long (XT.ushrL (p2 &&& (9223372036854775807 : Int64)) (1 : Int32))), .second, .val (.long (p3 >>> ((1 : Int32).toInt64 &&& 63))), .second, .val (.ref a1), .unset, .unset, .unset, .unset, .unset] [])) (fun t kt => XS.astore X2.here hx rfl (hb hby at_41) rfl rfl rfl kt) ?_
  obtain ⟨T3, h3, X3, e3, E3, A3, D3, -, st3⟩ := newO X2 hx hZ hown (hw _ (List.mem_of_getElem? (i := 1) rfl)) (hw _ (List.mem_of_getElem? (i := 2) rfl)) (hw _ (List.mem_of_getElem? (i := 3) rfl)) eh2 (g := (mkF m 43 #[.val (.long p0), .second, .val (.long p1), .second, .val (.long p2), .second, .val (.long p3), .second, .val (.long (XT.ushrL (p0 &&& (9223372036854775807 : Int64)) (1 : Int32))), .second, .val (.long (p1 >>> ((1 : Int32).toInt64 &&& 63))), .second, .val (.long (XT.ushrL (p2 &&& (9223372036854775807 : Int64)) (1 : Int32))), .second, .val (.long (p3 >>> ((1 : Int32).toInt64 &&& 63))), .second, .val (.ref a1), .unset, .unset, .unset, .unset, .unset] [])) rfl (hb hby at_43) (by decide) (by decide)
  obtain ⟨a3, g3⟩ : ∃ z, z = T2.heap.size := ⟨_, rfl⟩
  rw [← g3] at A3 D3 st3
  have Z3 : n0 ≤ h3.size := Nat.le_trans Z2 E3.1
  have F3_busy : Fld Z h3 a3 "com/example/forecache/forecache/MachineLoad$Ticks" "busy" "J" (.long (0 : Int64)) := D3 (Or.inr (hw _ (List.mem_of_getElem? (i := 16) rfl))) (ty := .long) (by decide)
  have F3_total : Fld Z h3 a3 "com/example/forecache/forecache/MachineLoad$Ticks" "total" "J" (.long (0 : Int64)) := D3 (Or.inr (hw _ (List.mem_of_getElem? (i := 18) rfl))) (ty := .long) (by decide)
  refine Go.st (S' := T3.setTop (mkF m 46 #[.val (.long p0), .second, .val (.long p1), .second, .val (.long p2), .second, .val (.long p3), .second, .val (.long (XT.ushrL (p0 &&& (9223372036854775807 : Int64)) (1 : Int32))), .second, .val (.long (p1 >>> ((1 : Int32).toInt64 &&& 63))), .second, .val (.long (XT.ushrL (p2 &&& (9223372036854775807 : Int64)) (1 : Int32))), .second, .val (.long (p3 >>> ((1 : Int32).toInt64 &&& 63))), .second, .val (.ref a1), .unset, .unset, .unset, .unset, .unset] [(.ref a3)])) (fun t kt => st3 t kt) ?_
  refine Go.st (S' := T3.setTop (mkF m 47 #[.val (.long p0), .second, .val (.long p1), .second, .val (.long p2), .second, .val (.long p3), .second, .val (.long (XT.ushrL (p0 &&& (9223372036854775807 : Int64)) (1 : Int32))), .second, .val (.long (p1 >>> ((1 : Int32).toInt64 &&& 63))), .second, .val (.long (XT.ushrL (p2 &&& (9223372036854775807 : Int64)) (1 : Int32))), .second, .val (.long (p3 >>> ((1 : Int32).toInt64 &&& 63))), .second, .val (.ref a1), .unset, .unset, .unset, .unset, .unset] [(.ref a3), (.ref a3)])) (fun t kt => XS.dup X3.here hx rfl (hb hby at_46) rfl rfl kt) ?_
  refine Go.st (S' := T3.setTop (mkF m 49 #[.val (.long p0), .second, .val (.long p1), .second, .val (.long p2), .second, .val (.long p3), .second, .val (.long (XT.ushrL (p0 &&& (9223372036854775807 : Int64)) (1 : Int32))), .second, .val (.long (p1 >>> ((1 : Int32).toInt64 &&& 63))), .second, .val (.long (XT.ushrL (p2 &&& (9223372036854775807 : Int64)) (1 : Int32))), .second, .val (.long (p3 >>> ((1 : Int32).toInt64 &&& 63))), .second, .val (.ref a1), .unset, .unset, .unset, .unset, .unset] [(.long (XT.ushrL (p2 &&& (9223372036854775807 : Int64)) (1 : Int32))), (.ref a3), (.ref a3)])) (fun t kt => XT.lload X3.here hx rfl (hb hby at_47) rfl kt) ?_
  refine Go.st (S' := T3.setTop (mkF m 51 #[.val (.long p0), .second, .val (.long p1), .second, .val (.long p2), .second, .val (.long p3), .second, .val (.long (XT.ushrL (p0 &&& (9223372036854775807 : Int64)) (1 : Int32))), .second, .val (.long (p1 >>> ((1 : Int32).toInt64 &&& 63))), .second, .val (.long (XT.ushrL (p2 &&& (9223372036854775807 : Int64)) (1 : Int32))), .second, .val (.long (p3 >>> ((1 : Int32).toInt64 &&& 63))), .second, .val (.ref a1), .unset, .unset, .unset, .unset, .unset] [(.long (p3 >>> ((1 : Int32).toInt64 &&& 63))), (.long (XT.ushrL (p2 &&& (9223372036854775807 : Int64)) (1 : Int32))), (.ref a3), (.ref a3)])) (fun t kt => XT.lload X3.here hx rfl (hb hby at_49) rfl kt) ?_
  refine Go.st (S' := T3.setTop (mkF m 52 #[.val (.long p0), .second, .val (.long p1), .second, .val (.long p2), .second, .val (.long p3), .second, .val (.long (XT.ushrL (p0 &&& (9223372036854775807 : Int64)) (1 : Int32))), .second, .val (.long (p1 >>> ((1 : Int32).toInt64 &&& 63))), .second, .val (.long (XT.ushrL (p2 &&& (9223372036854775807 : Int64)) (1 : Int32))), .second, .val (.long (p3 >>> ((1 : Int32).toInt64 &&& 63))), .second, .val (.ref a1), .unset, .unset, .unset, .unset, .unset] [(.long ((XT.ushrL (p2 &&& (9223372036854775807 : Int64)) (1 : Int32)) + (p3 >>> ((1 : Int32).toInt64 &&& 63)))), (.ref a3), (.ref a3)])) (fun t kt => XT.ladd X3.here hx rfl (hb hby at_51) rfl kt) ?_
  refine Go.st (S' := T3.setTop (mkF m 54 #[.val (.long p0), .second, .val (.long p1), .second, .val (.long p2), .second, .val (.long p3), .second, .val (.long (XT.ushrL (p0 &&& (9223372036854775807 : Int64)) (1 : Int32))), .second, .val (.long (p1 >>> ((1 : Int32).toInt64 &&& 63))), .second, .val (.long (XT.ushrL (p2 &&& (9223372036854775807 : Int64)) (1 : Int32))), .second, .val (.long (p3 >>> ((1 : Int32).toInt64 &&& 63))), .second, .val (.ref a1), .unset, .unset, .unset, .unset, .unset] [(.long (XT.ushrL (p0 &&& (9223372036854775807 : Int64)) (1 : Int32))), (.long ((XT.ushrL (p2 &&& (9223372036854775807 : Int64)) (1 : Int32)) + (p3 >>> ((1 : Int32).toInt64 &&& 63)))), (.ref a3), (.ref a3)])) (fun t kt => XT.lload X3.here hx rfl (hb hby at_52) rfl kt) ?_
  refine Go.st (S' := T3.setTop (mkF m 56 #[.val (.long p0), .second, .val (.long p1), .second, .val (.long p2), .second, .val (.long p3), .second, .val (.long (XT.ushrL (p0 &&& (9223372036854775807 : Int64)) (1 : Int32))), .second, .val (.long (p1 >>> ((1 : Int32).toInt64 &&& 63))), .second, .val (.long (XT.ushrL (p2 &&& (9223372036854775807 : Int64)) (1 : Int32))), .second, .val (.long (p3 >>> ((1 : Int32).toInt64 &&& 63))), .second, .val (.ref a1), .unset, .unset, .unset, .unset, .unset] [(.long (p1 >>> ((1 : Int32).toInt64 &&& 63))), (.long (XT.ushrL (p0 &&& (9223372036854775807 : Int64)) (1 : Int32))), (.long ((XT.ushrL (p2 &&& (9223372036854775807 : Int64)) (1 : Int32)) + (p3 >>> ((1 : Int32).toInt64 &&& 63)))), (.ref a3), (.ref a3)])) (fun t kt => XT.lload X3.here hx rfl (hb hby at_54) rfl kt) ?_
  refine Go.st (S' := T3.setTop (mkF m 57 #[.val (.long p0), .second, .val (.long p1), .second, .val (.long p2), .second, .val (.long p3), .second, .val (.long (XT.ushrL (p0 &&& (9223372036854775807 : Int64)) (1 : Int32))), .second, .val (.long (p1 >>> ((1 : Int32).toInt64 &&& 63))), .second, .val (.long (XT.ushrL (p2 &&& (9223372036854775807 : Int64)) (1 : Int32))), .second, .val (.long (p3 >>> ((1 : Int32).toInt64 &&& 63))), .second, .val (.ref a1), .unset, .unset, .unset, .unset, .unset] [(.long ((XT.ushrL (p0 &&& (9223372036854775807 : Int64)) (1 : Int32)) + (p1 >>> ((1 : Int32).toInt64 &&& 63)))), (.long ((XT.ushrL (p2 &&& (9223372036854775807 : Int64)) (1 : Int32)) + (p3 >>> ((1 : Int32).toInt64 &&& 63)))), (.ref a3), (.ref a3)])) (fun t kt => XT.ladd X3.here hx rfl (hb hby at_56) rfl kt) ?_
  refine Go.init X3 hx hZ rfl hown (hw _ (List.mem_of_getElem? (i := 4) rfl)) (hw _ (List.mem_of_getElem? (i := 5) rfl)) (hw _ (List.mem_of_getElem? (i := 6) rfl)) (hw _ (List.mem_of_getElem? (i := 3) rfl)) (by decide) (b := a3) (argsL := [(.long ((XT.ushrL (p2 &&& (9223372036854775807 : Int64)) (1 : Int32)) + (p3 >>> ((1 : Int32).toInt64 &&& 63)))), (.long ((XT.ushrL (p0 &&& (9223372036854775807 : Int64)) (1 : Int32)) + (p1 >>> ((1 : Int32).toInt64 &&& 63))))]) (rest := [(.ref a3)]) (rm2 l Z a0 hw a3 ((XT.ushrL (p2 &&& (9223372036854775807 : Int64)) (1 : Int32)) + (p3 >>> ((1 : Int32).toInt64 &&& 63))) ((XT.ushrL (p0 &&& (9223372036854775807 : Int64)) (1 : Int32)) + (p1 >>> ((1 : Int32).toInt64 &&& 63))) h3 n0 Z3 A3 (Nat.le_trans Z2 (Nat.le_of_eq g3.symm)) F3_busy F3_total) e3 rfl (by rw [hml]; rfl) pd__JJ_V rfl (hb hby at_57) 1 (Nat.le_refl _) (by decide) (by decide) (by decide) (by decide) ?_
  intro v4 T4 L4 X4 hQ4
  have f5 := (f2_0.ext E3)
  obtain ⟨hv4, N4', K4', f4_0, f4_1, f4_2⟩ := hQ4
  subst hv4
  have N4 := Fr.app N2 N4'
  have Z4 : n0 ≤ T4.heap.size := Nat.le_trans Z3 K4'.1
  have eh4 : T4.heap = T4.heap := rfl
  show Go pP eE below _ (T4.setTop (mkF m 60 #[.val (.long p0), .second, .val (.long p1), .second, .val (.long p2), .second, .val (.long p3), .second, .val (.long (XT.ushrL (p0 &&& (9223372036854775807 : Int64)) (1 : Int32))), .second, .val (.long (p1 >>> ((1 : Int32).toInt64 &&& 63))), .second, .val (.long (XT.ushrL (p2 &&& (9223372036854775807 : Int64)) (1 : Int32))), .second, .val (.long (p3 >>> ((1 : Int32).toInt64 &&& 63))), .second, .val (.ref a1), .unset, .unset, .unset, .unset, .unset] [(.ref a3)]))
  refine Go.st (S' := T4.setTop (mkF m 62 #[.val (.long p0), .second, .val (.long p1), .second, .val (.long p2), .second, .val (.long p3), .second, .val (.long (XT.ushrL (p0 &&& (9223372036854775807 : Int64)) (1 : Int32))), .second, .val (.long (p1 >>> ((1 : Int32).toInt64 &&& 63))), .second, .val (.long (XT.ushrL (p2 &&& (9223372036854775807 : Int64)) (1 : Int32))), .second, .val (.long (p3 >>> ((1 : Int32).toInt64 &&& 63))), .second, .val (.ref a1), .val (.ref a3), .unset, .unset, .unset, .unset] [])) (fun t kt => XS.astore X4.here hx rfl (hb hby at_60) rfl rfl rfl kt) ?_
  refine Go.st (S' := T4.setTop (mkF m 64 #[.val (.long p0), .second, .val (.long p1), .second, .val (.long p2), .second, .val (.long p3), .second, .val (.long (XT.ushrL (p0 &&& (9223372036854775807 : Int64)) (1 : Int32))), .second, .val (.long (p1 >>> ((1 : Int32).toInt64 &&& 63))), .second, .val (.long (XT.ushrL (p2 &&& (9223372036854775807 : Int64)) (1 : Int32))), .second, .val (.long (p3 >>> ((1 : Int32).toInt64 &&& 63))), .second, .val (.ref a1), .val (.ref a3), .unset, .unset, .unset, .unset] [(.ref a3)])) (fun t kt => XS.aload X4.here hx rfl (hb hby at_62) rfl rfl kt) ?_
  refine Go.st (S' := T4.setTop (mkF m 66 #[.val (.long p0), .second, .val (.long p1), .second, .val (.long p2), .second, .val (.long p3), .second, .val (.long (XT.ushrL (p0 &&& (9223372036854775807 : Int64)) (1 : Int32))), .second, .val (.long (p1 >>> ((1 : Int32).toInt64 &&& 63))), .second, .val (.long (XT.ushrL (p2 &&& (9223372036854775807 : Int64)) (1 : Int32))), .second, .val (.long (p3 >>> ((1 : Int32).toInt64 &&& 63))), .second, .val (.ref a1), .val (.ref a3), .unset, .unset, .unset, .unset] [(.ref a1), (.ref a3)])) (fun t kt => XS.aload X4.here hx rfl (hb hby at_64) rfl rfl kt) ?_
  obtain ⟨r1, hr1⟩ : ∃ r, r = own_bs ((p3 >>> ((1 : Int32).toInt64 &&& 63))) ((p1 >>> ((1 : Int32).toInt64 &&& 63))) := ⟨_, rfl⟩
  have f6 := ((f2_1.ext E3).keep K4' (ninS (Nat.ne_of_lt (by rw [g3]; exact f2_0.lt)) nin0))
  have f7 := ((f2_2.ext E3).keep K4' (ninS (Nat.ne_of_lt (by rw [g3]; exact f2_0.lt)) nin0))
  refine Go.virt X4 hx hZ hown (hw _ (List.mem_of_getElem? (i := 19) rfl)) (hw _ (List.mem_of_getElem? (i := 20) rfl)) (notFace_of_selects (mvT (args := #[]) hZ (hw _ (List.mem_of_getElem? (i := 22) rfl)))) (hw _ (List.mem_of_getElem? (i := 22) rfl)) (hw _ (List.mem_of_getElem? (i := 21) rfl)) (hw _ (List.mem_of_getElem? (i := 23) rfl)) (hw _ (List.mem_of_getElem? (i := 3) rfl)) (by decide) (b := a3) (argsL := [(.ref a1)]) (rest := []) (rm3 l Z a0 hw a3 a1 ((XT.ushrL (p2 &&& (9223372036854775807 : Int64)) (1 : Int32)) + (p3 >>> ((1 : Int32).toInt64 &&& 63))) ((XT.ushrL (p0 &&& (9223372036854775807 : Int64)) (1 : Int32)) + (p1 >>> ((1 : Int32).toInt64 &&& 63))) (XT.ushrL (p2 &&& (9223372036854775807 : Int64)) (1 : Int32)) (XT.ushrL (p0 &&& (9223372036854775807 : Int64)) (1 : Int32)) r1 T4.heap n0 Z4 f4_1 f4_2 f6 f7 (by rw [hr1, own_acs, own_acs])) eh4 f4_0 rfl (by rw [hml]; rfl) pd__Lcom_example_forecache_forecache_MachineLoad_Ticks__D rfl (hb hby at_66) 0 (Nat.le_refl _) (by decide) (by decide) (by decide) (by decide) ?_
  intro v8 T8 L8 X8 hQ8
  obtain ⟨hv8, N8', e8⟩ := hQ8
  subst hv8
  have N8 := Fr.app N4 N8'
  show Go pP eE below _ (T8.setTop (mkF m 69 #[.val (.long p0), .second, .val (.long p1), .second, .val (.long p2), .second, .val (.long p3), .second, .val (.long (XT.ushrL (p0 &&& (9223372036854775807 : Int64)) (1 : Int32))), .second, .val (.long (p1 >>> ((1 : Int32).toInt64 &&& 63))), .second, .val (.long (XT.ushrL (p2 &&& (9223372036854775807 : Int64)) (1 : Int32))), .second, .val (.long (p3 >>> ((1 : Int32).toInt64 &&& 63))), .second, .val (.ref a1), .val (.ref a3), .unset, .unset, .unset, .unset] [(.double r1)]))
  refine Go.st (S' := T8.setTop (mkF m 71 #[.val (.long p0), .second, .val (.long p1), .second, .val (.long p2), .second, .val (.long p3), .second, .val (.long (XT.ushrL (p0 &&& (9223372036854775807 : Int64)) (1 : Int32))), .second, .val (.long (p1 >>> ((1 : Int32).toInt64 &&& 63))), .second, .val (.long (XT.ushrL (p2 &&& (9223372036854775807 : Int64)) (1 : Int32))), .second, .val (.long (p3 >>> ((1 : Int32).toInt64 &&& 63))), .second, .val (.ref a1), .val (.ref a3), .val (.double r1), .second, .unset, .unset] [])) (fun t kt => XS.dstore X8.here hx rfl (hb hby at_69) rfl rfl kt) ?_
  refine Go.st (S' := T8.setTop (mkF m 73 #[.val (.long p0), .second, .val (.long p1), .second, .val (.long p2), .second, .val (.long p3), .second, .val (.long (XT.ushrL (p0 &&& (9223372036854775807 : Int64)) (1 : Int32))), .second, .val (.long (p1 >>> ((1 : Int32).toInt64 &&& 63))), .second, .val (.long (XT.ushrL (p2 &&& (9223372036854775807 : Int64)) (1 : Int32))), .second, .val (.long (p3 >>> ((1 : Int32).toInt64 &&& 63))), .second, .val (.ref a1), .val (.ref a3), .val (.double r1), .second, .unset, .unset] [(.ref a1)])) (fun t kt => XS.aload X8.here hx rfl (hb hby at_71) rfl rfl kt) ?_
  refine Go.st (S' := T8.setTop (mkF m 75 #[.val (.long p0), .second, .val (.long p1), .second, .val (.long p2), .second, .val (.long p3), .second, .val (.long (XT.ushrL (p0 &&& (9223372036854775807 : Int64)) (1 : Int32))), .second, .val (.long (p1 >>> ((1 : Int32).toInt64 &&& 63))), .second, .val (.long (XT.ushrL (p2 &&& (9223372036854775807 : Int64)) (1 : Int32))), .second, .val (.long (p3 >>> ((1 : Int32).toInt64 &&& 63))), .second, .val (.ref a1), .val (.ref a3), .val (.double r1), .second, .unset, .unset] [(.ref a3), (.ref a1)])) (fun t kt => XS.aload X8.here hx rfl (hb hby at_73) rfl rfl kt) ?_
  obtain ⟨r2, hr2⟩ : ∃ r, r = own_bs (-(p3 >>> ((1 : Int32).toInt64 &&& 63))) (-(p1 >>> ((1 : Int32).toInt64 &&& 63))) := ⟨_, rfl⟩
  have f10 := (f5.keep K4')
  refine Go.virt X8 hx hZ hown (hw _ (List.mem_of_getElem? (i := 19) rfl)) (hw _ (List.mem_of_getElem? (i := 20) rfl)) (notFace_of_selects (mvT (args := #[]) hZ (hw _ (List.mem_of_getElem? (i := 22) rfl)))) (hw _ (List.mem_of_getElem? (i := 22) rfl)) (hw _ (List.mem_of_getElem? (i := 21) rfl)) (hw _ (List.mem_of_getElem? (i := 23) rfl)) (hw _ (List.mem_of_getElem? (i := 3) rfl)) (by decide) (b := a1) (argsL := [(.ref a3)]) (rest := []) (rm3 l Z a0 hw a1 a3 (XT.ushrL (p2 &&& (9223372036854775807 : Int64)) (1 : Int32)) (XT.ushrL (p0 &&& (9223372036854775807 : Int64)) (1 : Int32)) ((XT.ushrL (p2 &&& (9223372036854775807 : Int64)) (1 : Int32)) + (p3 >>> ((1 : Int32).toInt64 &&& 63))) ((XT.ushrL (p0 &&& (9223372036854775807 : Int64)) (1 : Int32)) + (p1 >>> ((1 : Int32).toInt64 &&& 63))) r2 T4.heap n0 Z4 f6 f7 f4_1 f4_2 (by rw [hr2, own_sac, own_sac])) e8 f10 rfl (by rw [hml]; rfl) pd__Lcom_example_forecache_forecache_MachineLoad_Ticks__D rfl (hb hby at_75) 0 (Nat.le_refl _) (by decide) (by decide) (by decide) (by decide) ?_
  intro v9 T9 L9 X9 hQ9
  obtain ⟨hv9, N9', e9⟩ := hQ9
  subst hv9
  have N9 := Fr.app N8 N9'
  show Go pP eE below _ (T9.setTop (mkF m 78 #[.val (.long p0), .second, .val (.long p1), .second, .val (.long p2), .second, .val (.long p3), .second, .val (.long (XT.ushrL (p0 &&& (9223372036854775807 : Int64)) (1 : Int32))), .second, .val (.long (p1 >>> ((1 : Int32).toInt64 &&& 63))), .second, .val (.long (XT.ushrL (p2 &&& (9223372036854775807 : Int64)) (1 : Int32))), .second, .val (.long (p3 >>> ((1 : Int32).toInt64 &&& 63))), .second, .val (.ref a1), .val (.ref a3), .val (.double r1), .second, .unset, .unset] [(.double r2)]))
  refine Go.st (S' := T9.setTop (mkF m 80 #[.val (.long p0), .second, .val (.long p1), .second, .val (.long p2), .second, .val (.long p3), .second, .val (.long (XT.ushrL (p0 &&& (9223372036854775807 : Int64)) (1 : Int32))), .second, .val (.long (p1 >>> ((1 : Int32).toInt64 &&& 63))), .second, .val (.long (XT.ushrL (p2 &&& (9223372036854775807 : Int64)) (1 : Int32))), .second, .val (.long (p3 >>> ((1 : Int32).toInt64 &&& 63))), .second, .val (.ref a1), .val (.ref a3), .val (.double r1), .second, .val (.double r2), .second] [])) (fun t kt => XS.dstore X9.here hx rfl (hb hby at_78) rfl rfl kt) ?_
  refine Go.st (S' := T9.setTop (mkF m 82 #[.val (.long p0), .second, .val (.long p1), .second, .val (.long p2), .second, .val (.long p3), .second, .val (.long (XT.ushrL (p0 &&& (9223372036854775807 : Int64)) (1 : Int32))), .second, .val (.long (p1 >>> ((1 : Int32).toInt64 &&& 63))), .second, .val (.long (XT.ushrL (p2 &&& (9223372036854775807 : Int64)) (1 : Int32))), .second, .val (.long (p3 >>> ((1 : Int32).toInt64 &&& 63))), .second, .val (.ref a1), .val (.ref a3), .val (.double r1), .second, .val (.double r2), .second] [(.long (p1 >>> ((1 : Int32).toInt64 &&& 63)))])) (fun t kt => XT.lload X9.here hx rfl (hb hby at_80) rfl kt) ?_
  refine Go.st (S' := T9.setTop (mkF m 83 #[.val (.long p0), .second, .val (.long p1), .second, .val (.long p2), .second, .val (.long p3), .second, .val (.long (XT.ushrL (p0 &&& (9223372036854775807 : Int64)) (1 : Int32))), .second, .val (.long (p1 >>> ((1 : Int32).toInt64 &&& 63))), .second, .val (.long (XT.ushrL (p2 &&& (9223372036854775807 : Int64)) (1 : Int32))), .second, .val (.long (p3 >>> ((1 : Int32).toInt64 &&& 63))), .second, .val (.ref a1), .val (.ref a3), .val (.double r1), .second, .val (.double r2), .second] [(.long (0 : Int64)), (.long (p1 >>> ((1 : Int32).toInt64 &&& 63)))])) (fun t kt => XT.lconstV X9.here hx rfl (0 : Int64) (hb hby at_82) (by decide) kt) ?_
  refine Go.st (S' := T9.setTop (mkF m 84 #[.val (.long p0), .second, .val (.long p1), .second, .val (.long p2), .second, .val (.long p3), .second, .val (.long (XT.ushrL (p0 &&& (9223372036854775807 : Int64)) (1 : Int32))), .second, .val (.long (p1 >>> ((1 : Int32).toInt64 &&& 63))), .second, .val (.long (XT.ushrL (p2 &&& (9223372036854775807 : Int64)) (1 : Int32))), .second, .val (.long (p3 >>> ((1 : Int32).toInt64 &&& 63))), .second, .val (.ref a1), .val (.ref a3), .val (.double r1), .second, .val (.double r2), .second] [(.int (XT.cmpL (p1 >>> ((1 : Int32).toInt64 &&& 63)) (0 : Int64)))])) (fun t kt => XT.lcmp X9.here hx rfl (hb hby at_83) rfl kt) ?_
  by_cases hc84_11 : (0 : Int64) < (p1 >>> ((1 : Int32).toInt64 &&& 63))
  · refine Go.st (S' := T9.setTop (mkF m 87 #[.val (.long p0), .second, .val (.long p1), .second, .val (.long p2), .second, .val (.long p3), .second, .val (.long (XT.ushrL (p0 &&& (9223372036854775807 : Int64)) (1 : Int32))), .second, .val (.long (p1 >>> ((1 : Int32).toInt64 &&& 63))), .second, .val (.long (XT.ushrL (p2 &&& (9223372036854775807 : Int64)) (1 : Int32))), .second, .val (.long (p3 >>> ((1 : Int32).toInt64 &&& 63))), .second, .val (.ref a1), .val (.ref a3), .val (.double r1), .second, .val (.double r2), .second] [])) (fun t kt => XS.ifNo X9.here hx rfl (hb hby at_84) rfl (XT.ll_le_f hc84_11) kt) ?_
    refine Go.st (S' := T9.setTop (mkF m 89 #[.val (.long p0), .second, .val (.long p1), .second, .val (.long p2), .second, .val (.long p3), .second, .val (.long (XT.ushrL (p0 &&& (9223372036854775807 : Int64)) (1 : Int32))), .second, .val (.long (p1 >>> ((1 : Int32).toInt64 &&& 63))), .second, .val (.long (XT.ushrL (p2 &&& (9223372036854775807 : Int64)) (1 : Int32))), .second, .val (.long (p3 >>> ((1 : Int32).toInt64 &&& 63))), .second, .val (.ref a1), .val (.ref a3), .val (.double r1), .second, .val (.double r2), .second] [(.double r1)])) (fun t kt => XS.dload X9.here hx rfl (hb hby at_87) rfl kt) ?_
    refine Go.st (S' := T9.setTop (mkF m 91 #[.val (.long p0), .second, .val (.long p1), .second, .val (.long p2), .second, .val (.long p3), .second, .val (.long (XT.ushrL (p0 &&& (9223372036854775807 : Int64)) (1 : Int32))), .second, .val (.long (p1 >>> ((1 : Int32).toInt64 &&& 63))), .second, .val (.long (XT.ushrL (p2 &&& (9223372036854775807 : Int64)) (1 : Int32))), .second, .val (.long (p3 >>> ((1 : Int32).toInt64 &&& 63))), .second, .val (.ref a1), .val (.ref a3), .val (.double r1), .second, .val (.double r2), .second] [(.long (p3 >>> ((1 : Int32).toInt64 &&& 63))), (.double r1)])) (fun t kt => XT.lload X9.here hx rfl (hb hby at_89) rfl kt) ?_
    refine Go.st (S' := T9.setTop (mkF m 92 #[.val (.long p0), .second, .val (.long p1), .second, .val (.long p2), .second, .val (.long p3), .second, .val (.long (XT.ushrL (p0 &&& (9223372036854775807 : Int64)) (1 : Int32))), .second, .val (.long (p1 >>> ((1 : Int32).toInt64 &&& 63))), .second, .val (.long (XT.ushrL (p2 &&& (9223372036854775807 : Int64)) (1 : Int32))), .second, .val (.long (p3 >>> ((1 : Int32).toInt64 &&& 63))), .second, .val (.ref a1), .val (.ref a3), .val (.double r1), .second, .val (.double r2), .second] [(.double (FP.l2d (p3 >>> ((1 : Int32).toInt64 &&& 63)))), (.double r1)])) (fun t kt => XS.l2dS X9.here hx rfl (hb hby at_91) rfl rfl kt) ?_
    refine Go.st (S' := T9.setTop (mkF m 94 #[.val (.long p0), .second, .val (.long p1), .second, .val (.long p2), .second, .val (.long p3), .second, .val (.long (XT.ushrL (p0 &&& (9223372036854775807 : Int64)) (1 : Int32))), .second, .val (.long (p1 >>> ((1 : Int32).toInt64 &&& 63))), .second, .val (.long (XT.ushrL (p2 &&& (9223372036854775807 : Int64)) (1 : Int32))), .second, .val (.long (p3 >>> ((1 : Int32).toInt64 &&& 63))), .second, .val (.ref a1), .val (.ref a3), .val (.double r1), .second, .val (.double r2), .second] [(.long (p1 >>> ((1 : Int32).toInt64 &&& 63))), (.double (FP.l2d (p3 >>> ((1 : Int32).toInt64 &&& 63)))), (.double r1)])) (fun t kt => XT.lload X9.here hx rfl (hb hby at_92) rfl kt) ?_
    refine Go.st (S' := T9.setTop (mkF m 95 #[.val (.long p0), .second, .val (.long p1), .second, .val (.long p2), .second, .val (.long p3), .second, .val (.long (XT.ushrL (p0 &&& (9223372036854775807 : Int64)) (1 : Int32))), .second, .val (.long (p1 >>> ((1 : Int32).toInt64 &&& 63))), .second, .val (.long (XT.ushrL (p2 &&& (9223372036854775807 : Int64)) (1 : Int32))), .second, .val (.long (p3 >>> ((1 : Int32).toInt64 &&& 63))), .second, .val (.ref a1), .val (.ref a3), .val (.double r1), .second, .val (.double r2), .second] [(.double (FP.l2d (p1 >>> ((1 : Int32).toInt64 &&& 63)))), (.double (FP.l2d (p3 >>> ((1 : Int32).toInt64 &&& 63)))), (.double r1)])) (fun t kt => XS.l2dS X9.here hx rfl (hb hby at_94) rfl rfl kt) ?_
    refine Go.st (S' := T9.setTop (mkF m 96 #[.val (.long p0), .second, .val (.long p1), .second, .val (.long p2), .second, .val (.long p3), .second, .val (.long (XT.ushrL (p0 &&& (9223372036854775807 : Int64)) (1 : Int32))), .second, .val (.long (p1 >>> ((1 : Int32).toInt64 &&& 63))), .second, .val (.long (XT.ushrL (p2 &&& (9223372036854775807 : Int64)) (1 : Int32))), .second, .val (.long (p3 >>> ((1 : Int32).toInt64 &&& 63))), .second, .val (.ref a1), .val (.ref a3), .val (.double r1), .second, .val (.double r2), .second] [(.double (FP.ddiv (FP.l2d (p3 >>> ((1 : Int32).toInt64 &&& 63))) (FP.l2d (p1 >>> ((1 : Int32).toInt64 &&& 63))))), (.double r1)])) (fun t kt => XS.ddivS X9.here hx rfl (hb hby at_95) rfl (own_nz hc84_11 _) rfl kt) ?_
    refine Go.st (S' := T9.setTop (mkF m 97 #[.val (.long p0), .second, .val (.long p1), .second, .val (.long p2), .second, .val (.long p3), .second, .val (.long (XT.ushrL (p0 &&& (9223372036854775807 : Int64)) (1 : Int32))), .second, .val (.long (p1 >>> ((1 : Int32).toInt64 &&& 63))), .second, .val (.long (XT.ushrL (p2 &&& (9223372036854775807 : Int64)) (1 : Int32))), .second, .val (.long (p3 >>> ((1 : Int32).toInt64 &&& 63))), .second, .val (.ref a1), .val (.ref a3), .val (.double r1), .second, .val (.double r2), .second] [(.int (cmpValue (FP.dcmp r1 (FP.ddiv (FP.l2d (p3 >>> ((1 : Int32).toInt64 &&& 63))) (FP.l2d (p1 >>> ((1 : Int32).toInt64 &&& 63))))) .l))])) (fun t kt => XS.dcmpS X9.here hx rfl (hb hby at_96) rfl rfl kt) ?_
    refine Go.st (S' := T9.setTop (mkF m 100 #[.val (.long p0), .second, .val (.long p1), .second, .val (.long p2), .second, .val (.long p3), .second, .val (.long (XT.ushrL (p0 &&& (9223372036854775807 : Int64)) (1 : Int32))), .second, .val (.long (p1 >>> ((1 : Int32).toInt64 &&& 63))), .second, .val (.long (XT.ushrL (p2 &&& (9223372036854775807 : Int64)) (1 : Int32))), .second, .val (.long (p3 >>> ((1 : Int32).toInt64 &&& 63))), .second, .val (.ref a1), .val (.ref a3), .val (.double r1), .second, .val (.double r2), .second] [])) (fun t kt => XS.ifNo X9.here hx rfl (hb hby at_97) rfl (XT.i0_ne_f (own_same (by rw [hr1]; unfold own_bs; rw [if_pos hc84_11]) (own_nz hc84_11 _))) kt) ?_
    refine Go.st (S' := T9.setTop (mkF m 102 #[.val (.long p0), .second, .val (.long p1), .second, .val (.long p2), .second, .val (.long p3), .second, .val (.long (XT.ushrL (p0 &&& (9223372036854775807 : Int64)) (1 : Int32))), .second, .val (.long (p1 >>> ((1 : Int32).toInt64 &&& 63))), .second, .val (.long (XT.ushrL (p2 &&& (9223372036854775807 : Int64)) (1 : Int32))), .second, .val (.long (p3 >>> ((1 : Int32).toInt64 &&& 63))), .second, .val (.ref a1), .val (.ref a3), .val (.double r1), .second, .val (.double r2), .second] [(.double r2)])) (fun t kt => XS.dload X9.here hx rfl (hb hby at_100) rfl kt) ?_
    refine Go.st (S' := T9.setTop (mkF m 104 #[.val (.long p0), .second, .val (.long p1), .second, .val (.long p2), .second, .val (.long p3), .second, .val (.long (XT.ushrL (p0 &&& (9223372036854775807 : Int64)) (1 : Int32))), .second, .val (.long (p1 >>> ((1 : Int32).toInt64 &&& 63))), .second, .val (.long (XT.ushrL (p2 &&& (9223372036854775807 : Int64)) (1 : Int32))), .second, .val (.long (p3 >>> ((1 : Int32).toInt64 &&& 63))), .second, .val (.ref a1), .val (.ref a3), .val (.double r1), .second, .val (.double r2), .second] [(.double r2), (.double r2)])) (fun t kt => XS.dload X9.here hx rfl (hb hby at_102) rfl kt) ?_
    refine Go.st (S' := T9.setTop (mkF m 105 #[.val (.long p0), .second, .val (.long p1), .second, .val (.long p2), .second, .val (.long p3), .second, .val (.long (XT.ushrL (p0 &&& (9223372036854775807 : Int64)) (1 : Int32))), .second, .val (.long (p1 >>> ((1 : Int32).toInt64 &&& 63))), .second, .val (.long (XT.ushrL (p2 &&& (9223372036854775807 : Int64)) (1 : Int32))), .second, .val (.long (p3 >>> ((1 : Int32).toInt64 &&& 63))), .second, .val (.ref a1), .val (.ref a3), .val (.double r1), .second, .val (.double r2), .second] [(.int (cmpValue (FP.dcmp r2 r2) .l))])) (fun t kt => XS.dcmpS X9.here hx rfl (hb hby at_104) rfl rfl kt) ?_
    refine Go.st (S' := T9.setTop (mkF m 108 #[.val (.long p0), .second, .val (.long p1), .second, .val (.long p2), .second, .val (.long p3), .second, .val (.long (XT.ushrL (p0 &&& (9223372036854775807 : Int64)) (1 : Int32))), .second, .val (.long (p1 >>> ((1 : Int32).toInt64 &&& 63))), .second, .val (.long (XT.ushrL (p2 &&& (9223372036854775807 : Int64)) (1 : Int32))), .second, .val (.long (p3 >>> ((1 : Int32).toInt64 &&& 63))), .second, .val (.ref a1), .val (.ref a3), .val (.double r1), .second, .val (.double r2), .second] [])) (fun t kt => XS.ifNo X9.here hx rfl (hb hby at_105) rfl (XT.i0_eq_f (own_nan (by rw [hr2]; unfold own_bs; rw [if_neg (own_neg_of_pos (p1 := p1) hc84_11)]))) kt) ?_
    refine Go.st (S' := T9.setTop (mkF m 109 #[.val (.long p0), .second, .val (.long p1), .second, .val (.long p2), .second, .val (.long p3), .second, .val (.long (XT.ushrL (p0 &&& (9223372036854775807 : Int64)) (1 : Int32))), .second, .val (.long (p1 >>> ((1 : Int32).toInt64 &&& 63))), .second, .val (.long (XT.ushrL (p2 &&& (9223372036854775807 : Int64)) (1 : Int32))), .second, .val (.long (p3 >>> ((1 : Int32).toInt64 &&& 63))), .second, .val (.ref a1), .val (.ref a3), .val (.double r1), .second, .val (.double r2), .second] [(.int (1 : Int32))])) (fun t kt => XS.iconst X9.here hx rfl (hb hby at_108) kt) ?_
    refine Go.st (S' := T9.setTop (mkF m 113 #[.val (.long p0), .second, .val (.long p1), .second, .val (.long p2), .second, .val (.long p3), .second, .val (.long (XT.ushrL (p0 &&& (9223372036854775807 : Int64)) (1 : Int32))), .second, .val (.long (p1 >>> ((1 : Int32).toInt64 &&& 63))), .second, .val (.long (XT.ushrL (p2 &&& (9223372036854775807 : Int64)) (1 : Int32))), .second, .val (.long (p3 >>> ((1 : Int32).toInt64 &&& 63))), .second, .val (.ref a1), .val (.ref a3), .val (.double r1), .second, .val (.double r2), .second] [(.int (1 : Int32))])) (fun t kt => XS.goto X9.here hx rfl (pc0 := 109) (pc' := 113) rfl (hb hby at_109) (by decide) (by decide) kt) ?_
    exact ret_b X9 hx hlk hret (hb hby at_113) (by decide) (by decide) (⟨rfl, N9⟩)
  · refine Go.st (S' := T9.setTop (mkF m 114 #[.val (.long p0), .second, .val (.long p1), .second, .val (.long p2), .second, .val (.long p3), .second, .val (.long (XT.ushrL (p0 &&& (9223372036854775807 : Int64)) (1 : Int32))), .second, .val (.long (p1 >>> ((1 : Int32).toInt64 &&& 63))), .second, .val (.long (XT.ushrL (p2 &&& (9223372036854775807 : Int64)) (1 : Int32))), .second, .val (.long (p3 >>> ((1 : Int32).toInt64 &&& 63))), .second, .val (.ref a1), .val (.ref a3), .val (.double r1), .second, .val (.double r2), .second] [])) (fun t kt => XS.ifYes X9.here hx rfl (pc0 := 84) (pc' := 114) rfl (hb hby at_84) rfl (XT.ll_le_t hc84_11) (by decide) (by decide) kt) ?_
    refine Go.st (S' := T9.setTop (mkF m 116 #[.val (.long p0), .second, .val (.long p1), .second, .val (.long p2), .second, .val (.long p3), .second, .val (.long (XT.ushrL (p0 &&& (9223372036854775807 : Int64)) (1 : Int32))), .second, .val (.long (p1 >>> ((1 : Int32).toInt64 &&& 63))), .second, .val (.long (XT.ushrL (p2 &&& (9223372036854775807 : Int64)) (1 : Int32))), .second, .val (.long (p3 >>> ((1 : Int32).toInt64 &&& 63))), .second, .val (.ref a1), .val (.ref a3), .val (.double r1), .second, .val (.double r2), .second] [(.long (p1 >>> ((1 : Int32).toInt64 &&& 63)))])) (fun t kt => XT.lload X9.here hx rfl (hb hby at_114) rfl kt) ?_
    refine Go.st (S' := T9.setTop (mkF m 117 #[.val (.long p0), .second, .val (.long p1), .second, .val (.long p2), .second, .val (.long p3), .second, .val (.long (XT.ushrL (p0 &&& (9223372036854775807 : Int64)) (1 : Int32))), .second, .val (.long (p1 >>> ((1 : Int32).toInt64 &&& 63))), .second, .val (.long (XT.ushrL (p2 &&& (9223372036854775807 : Int64)) (1 : Int32))), .second, .val (.long (p3 >>> ((1 : Int32).toInt64 &&& 63))), .second, .val (.ref a1), .val (.ref a3), .val (.double r1), .second, .val (.double r2), .second] [(.long (0 : Int64)), (.long (p1 >>> ((1 : Int32).toInt64 &&& 63)))])) (fun t kt => XT.lconstV X9.here hx rfl (0 : Int64) (hb hby at_116) (by decide) kt) ?_
    refine Go.st (S' := T9.setTop (mkF m 118 #[.val (.long p0), .second, .val (.long p1), .second, .val (.long p2), .second, .val (.long p3), .second, .val (.long (XT.ushrL (p0 &&& (9223372036854775807 : Int64)) (1 : Int32))), .second, .val (.long (p1 >>> ((1 : Int32).toInt64 &&& 63))), .second, .val (.long (XT.ushrL (p2 &&& (9223372036854775807 : Int64)) (1 : Int32))), .second, .val (.long (p3 >>> ((1 : Int32).toInt64 &&& 63))), .second, .val (.ref a1), .val (.ref a3), .val (.double r1), .second, .val (.double r2), .second] [(.int (XT.cmpL (p1 >>> ((1 : Int32).toInt64 &&& 63)) (0 : Int64)))])) (fun t kt => XT.lcmp X9.here hx rfl (hb hby at_117) rfl kt) ?_
    by_cases hc118_12 : (p1 >>> ((1 : Int32).toInt64 &&& 63)) < (0 : Int64)
    · refine Go.st (S' := T9.setTop (mkF m 121 #[.val (.long p0), .second, .val (.long p1), .second, .val (.long p2), .second, .val (.long p3), .second, .val (.long (XT.ushrL (p0 &&& (9223372036854775807 : Int64)) (1 : Int32))), .second, .val (.long (p1 >>> ((1 : Int32).toInt64 &&& 63))), .second, .val (.long (XT.ushrL (p2 &&& (9223372036854775807 : Int64)) (1 : Int32))), .second, .val (.long (p3 >>> ((1 : Int32).toInt64 &&& 63))), .second, .val (.ref a1), .val (.ref a3), .val (.double r1), .second, .val (.double r2), .second] [])) (fun t kt => XS.ifNo X9.here hx rfl (hb hby at_118) rfl (XT.ll_ge_f hc118_12) kt) ?_
      refine Go.st (S' := T9.setTop (mkF m 123 #[.val (.long p0), .second, .val (.long p1), .second, .val (.long p2), .second, .val (.long p3), .second, .val (.long (XT.ushrL (p0 &&& (9223372036854775807 : Int64)) (1 : Int32))), .second, .val (.long (p1 >>> ((1 : Int32).toInt64 &&& 63))), .second, .val (.long (XT.ushrL (p2 &&& (9223372036854775807 : Int64)) (1 : Int32))), .second, .val (.long (p3 >>> ((1 : Int32).toInt64 &&& 63))), .second, .val (.ref a1), .val (.ref a3), .val (.double r1), .second, .val (.double r2), .second] [(.double r1)])) (fun t kt => XS.dload X9.here hx rfl (hb hby at_121) rfl kt) ?_
      refine Go.st (S' := T9.setTop (mkF m 125 #[.val (.long p0), .second, .val (.long p1), .second, .val (.long p2), .second, .val (.long p3), .second, .val (.long (XT.ushrL (p0 &&& (9223372036854775807 : Int64)) (1 : Int32))), .second, .val (.long (p1 >>> ((1 : Int32).toInt64 &&& 63))), .second, .val (.long (XT.ushrL (p2 &&& (9223372036854775807 : Int64)) (1 : Int32))), .second, .val (.long (p3 >>> ((1 : Int32).toInt64 &&& 63))), .second, .val (.ref a1), .val (.ref a3), .val (.double r1), .second, .val (.double r2), .second] [(.double r1), (.double r1)])) (fun t kt => XS.dload X9.here hx rfl (hb hby at_123) rfl kt) ?_
      refine Go.st (S' := T9.setTop (mkF m 126 #[.val (.long p0), .second, .val (.long p1), .second, .val (.long p2), .second, .val (.long p3), .second, .val (.long (XT.ushrL (p0 &&& (9223372036854775807 : Int64)) (1 : Int32))), .second, .val (.long (p1 >>> ((1 : Int32).toInt64 &&& 63))), .second, .val (.long (XT.ushrL (p2 &&& (9223372036854775807 : Int64)) (1 : Int32))), .second, .val (.long (p3 >>> ((1 : Int32).toInt64 &&& 63))), .second, .val (.ref a1), .val (.ref a3), .val (.double r1), .second, .val (.double r2), .second] [(.int (cmpValue (FP.dcmp r1 r1) .l))])) (fun t kt => XS.dcmpS X9.here hx rfl (hb hby at_125) rfl rfl kt) ?_
      refine Go.st (S' := T9.setTop (mkF m 129 #[.val (.long p0), .second, .val (.long p1), .second, .val (.long p2), .second, .val (.long p3), .second, .val (.long (XT.ushrL (p0 &&& (9223372036854775807 : Int64)) (1 : Int32))), .second, .val (.long (p1 >>> ((1 : Int32).toInt64 &&& 63))), .second, .val (.long (XT.ushrL (p2 &&& (9223372036854775807 : Int64)) (1 : Int32))), .second, .val (.long (p3 >>> ((1 : Int32).toInt64 &&& 63))), .second, .val (.ref a1), .val (.ref a3), .val (.double r1), .second, .val (.double r2), .second] [])) (fun t kt => XS.ifNo X9.here hx rfl (hb hby at_126) rfl (XT.i0_eq_f (own_nan (by rw [hr1]; unfold own_bs; rw [if_neg hc84_11]))) kt) ?_
      refine Go.st (S' := T9.setTop (mkF m 131 #[.val (.long p0), .second, .val (.long p1), .second, .val (.long p2), .second, .val (.long p3), .second, .val (.long (XT.ushrL (p0 &&& (9223372036854775807 : Int64)) (1 : Int32))), .second, .val (.long (p1 >>> ((1 : Int32).toInt64 &&& 63))), .second, .val (.long (XT.ushrL (p2 &&& (9223372036854775807 : Int64)) (1 : Int32))), .second, .val (.long (p3 >>> ((1 : Int32).toInt64 &&& 63))), .second, .val (.ref a1), .val (.ref a3), .val (.double r1), .second, .val (.double r2), .second] [(.double r2)])) (fun t kt => XS.dload X9.here hx rfl (hb hby at_129) rfl kt) ?_
      refine Go.st (S' := T9.setTop (mkF m 133 #[.val (.long p0), .second, .val (.long p1), .second, .val (.long p2), .second, .val (.long p3), .second, .val (.long (XT.ushrL (p0 &&& (9223372036854775807 : Int64)) (1 : Int32))), .second, .val (.long (p1 >>> ((1 : Int32).toInt64 &&& 63))), .second, .val (.long (XT.ushrL (p2 &&& (9223372036854775807 : Int64)) (1 : Int32))), .second, .val (.long (p3 >>> ((1 : Int32).toInt64 &&& 63))), .second, .val (.ref a1), .val (.ref a3), .val (.double r1), .second, .val (.double r2), .second] [(.long (p3 >>> ((1 : Int32).toInt64 &&& 63))), (.double r2)])) (fun t kt => XT.lload X9.here hx rfl (hb hby at_131) rfl kt) ?_
      refine Go.st (S' := T9.setTop (mkF m 134 #[.val (.long p0), .second, .val (.long p1), .second, .val (.long p2), .second, .val (.long p3), .second, .val (.long (XT.ushrL (p0 &&& (9223372036854775807 : Int64)) (1 : Int32))), .second, .val (.long (p1 >>> ((1 : Int32).toInt64 &&& 63))), .second, .val (.long (XT.ushrL (p2 &&& (9223372036854775807 : Int64)) (1 : Int32))), .second, .val (.long (p3 >>> ((1 : Int32).toInt64 &&& 63))), .second, .val (.ref a1), .val (.ref a3), .val (.double r1), .second, .val (.double r2), .second] [(.long (-(p3 >>> ((1 : Int32).toInt64 &&& 63)))), (.double r2)])) (fun t kt => XT.lneg X9.here hx rfl (hb hby at_133) rfl kt) ?_
      refine Go.st (S' := T9.setTop (mkF m 135 #[.val (.long p0), .second, .val (.long p1), .second, .val (.long p2), .second, .val (.long p3), .second, .val (.long (XT.ushrL (p0 &&& (9223372036854775807 : Int64)) (1 : Int32))), .second, .val (.long (p1 >>> ((1 : Int32).toInt64 &&& 63))), .second, .val (.long (XT.ushrL (p2 &&& (9223372036854775807 : Int64)) (1 : Int32))), .second, .val (.long (p3 >>> ((1 : Int32).toInt64 &&& 63))), .second, .val (.ref a1), .val (.ref a3), .val (.double r1), .second, .val (.double r2), .second] [(.double (FP.l2d (-(p3 >>> ((1 : Int32).toInt64 &&& 63))))), (.double r2)])) (fun t kt => XS.l2dS X9.here hx rfl (hb hby at_134) rfl rfl kt) ?_
      refine Go.st (S' := T9.setTop (mkF m 137 #[.val (.long p0), .second, .val (.long p1), .second, .val (.long p2), .second, .val (.long p3), .second, .val (.long (XT.ushrL (p0 &&& (9223372036854775807 : Int64)) (1 : Int32))), .second, .val (.long (p1 >>> ((1 : Int32).toInt64 &&& 63))), .second, .val (.long (XT.ushrL (p2 &&& (9223372036854775807 : Int64)) (1 : Int32))), .second, .val (.long (p3 >>> ((1 : Int32).toInt64 &&& 63))), .second, .val (.ref a1), .val (.ref a3), .val (.double r1), .second, .val (.double r2), .second] [(.long (p1 >>> ((1 : Int32).toInt64 &&& 63))), (.double (FP.l2d (-(p3 >>> ((1 : Int32).toInt64 &&& 63))))), (.double r2)])) (fun t kt => XT.lload X9.here hx rfl (hb hby at_135) rfl kt) ?_
      refine Go.st (S' := T9.setTop (mkF m 138 #[.val (.long p0), .second, .val (.long p1), .second, .val (.long p2), .second, .val (.long p3), .second, .val (.long (XT.ushrL (p0 &&& (9223372036854775807 : Int64)) (1 : Int32))), .second, .val (.long (p1 >>> ((1 : Int32).toInt64 &&& 63))), .second, .val (.long (XT.ushrL (p2 &&& (9223372036854775807 : Int64)) (1 : Int32))), .second, .val (.long (p3 >>> ((1 : Int32).toInt64 &&& 63))), .second, .val (.ref a1), .val (.ref a3), .val (.double r1), .second, .val (.double r2), .second] [(.long (-(p1 >>> ((1 : Int32).toInt64 &&& 63)))), (.double (FP.l2d (-(p3 >>> ((1 : Int32).toInt64 &&& 63))))), (.double r2)])) (fun t kt => XT.lneg X9.here hx rfl (hb hby at_137) rfl kt) ?_
      refine Go.st (S' := T9.setTop (mkF m 139 #[.val (.long p0), .second, .val (.long p1), .second, .val (.long p2), .second, .val (.long p3), .second, .val (.long (XT.ushrL (p0 &&& (9223372036854775807 : Int64)) (1 : Int32))), .second, .val (.long (p1 >>> ((1 : Int32).toInt64 &&& 63))), .second, .val (.long (XT.ushrL (p2 &&& (9223372036854775807 : Int64)) (1 : Int32))), .second, .val (.long (p3 >>> ((1 : Int32).toInt64 &&& 63))), .second, .val (.ref a1), .val (.ref a3), .val (.double r1), .second, .val (.double r2), .second] [(.double (FP.l2d (-(p1 >>> ((1 : Int32).toInt64 &&& 63))))), (.double (FP.l2d (-(p3 >>> ((1 : Int32).toInt64 &&& 63))))), (.double r2)])) (fun t kt => XS.l2dS X9.here hx rfl (hb hby at_138) rfl rfl kt) ?_
      refine Go.st (S' := T9.setTop (mkF m 140 #[.val (.long p0), .second, .val (.long p1), .second, .val (.long p2), .second, .val (.long p3), .second, .val (.long (XT.ushrL (p0 &&& (9223372036854775807 : Int64)) (1 : Int32))), .second, .val (.long (p1 >>> ((1 : Int32).toInt64 &&& 63))), .second, .val (.long (XT.ushrL (p2 &&& (9223372036854775807 : Int64)) (1 : Int32))), .second, .val (.long (p3 >>> ((1 : Int32).toInt64 &&& 63))), .second, .val (.ref a1), .val (.ref a3), .val (.double r1), .second, .val (.double r2), .second] [(.double (FP.ddiv (FP.l2d (-(p3 >>> ((1 : Int32).toInt64 &&& 63)))) (FP.l2d (-(p1 >>> ((1 : Int32).toInt64 &&& 63)))))), (.double r2)])) (fun t kt => XS.ddivS X9.here hx rfl (hb hby at_139) rfl (own_nz (own_pos_of_neg hc118_12) _) rfl kt) ?_
      refine Go.st (S' := T9.setTop (mkF m 141 #[.val (.long p0), .second, .val (.long p1), .second, .val (.long p2), .second, .val (.long p3), .second, .val (.long (XT.ushrL (p0 &&& (9223372036854775807 : Int64)) (1 : Int32))), .second, .val (.long (p1 >>> ((1 : Int32).toInt64 &&& 63))), .second, .val (.long (XT.ushrL (p2 &&& (9223372036854775807 : Int64)) (1 : Int32))), .second, .val (.long (p3 >>> ((1 : Int32).toInt64 &&& 63))), .second, .val (.ref a1), .val (.ref a3), .val (.double r1), .second, .val (.double r2), .second] [(.int (cmpValue (FP.dcmp r2 (FP.ddiv (FP.l2d (-(p3 >>> ((1 : Int32).toInt64 &&& 63)))) (FP.l2d (-(p1 >>> ((1 : Int32).toInt64 &&& 63)))))) .l))])) (fun t kt => XS.dcmpS X9.here hx rfl (hb hby at_140) rfl rfl kt) ?_
      refine Go.st (S' := T9.setTop (mkF m 144 #[.val (.long p0), .second, .val (.long p1), .second, .val (.long p2), .second, .val (.long p3), .second, .val (.long (XT.ushrL (p0 &&& (9223372036854775807 : Int64)) (1 : Int32))), .second, .val (.long (p1 >>> ((1 : Int32).toInt64 &&& 63))), .second, .val (.long (XT.ushrL (p2 &&& (9223372036854775807 : Int64)) (1 : Int32))), .second, .val (.long (p3 >>> ((1 : Int32).toInt64 &&& 63))), .second, .val (.ref a1), .val (.ref a3), .val (.double r1), .second, .val (.double r2), .second] [])) (fun t kt => XS.ifNo X9.here hx rfl (hb hby at_141) rfl (XT.i0_ne_f (own_same (by rw [hr2]; unfold own_bs; rw [if_pos (own_pos_of_neg hc118_12)]) (own_nz (own_pos_of_neg hc118_12) _))) kt) ?_
      refine Go.st (S' := T9.setTop (mkF m 145 #[.val (.long p0), .second, .val (.long p1), .second, .val (.long p2), .second, .val (.long p3), .second, .val (.long (XT.ushrL (p0 &&& (9223372036854775807 : Int64)) (1 : Int32))), .second, .val (.long (p1 >>> ((1 : Int32).toInt64 &&& 63))), .second, .val (.long (XT.ushrL (p2 &&& (9223372036854775807 : Int64)) (1 : Int32))), .second, .val (.long (p3 >>> ((1 : Int32).toInt64 &&& 63))), .second, .val (.ref a1), .val (.ref a3), .val (.double r1), .second, .val (.double r2), .second] [(.int (1 : Int32))])) (fun t kt => XS.iconst X9.here hx rfl (hb hby at_144) kt) ?_
      refine Go.st (S' := T9.setTop (mkF m 149 #[.val (.long p0), .second, .val (.long p1), .second, .val (.long p2), .second, .val (.long p3), .second, .val (.long (XT.ushrL (p0 &&& (9223372036854775807 : Int64)) (1 : Int32))), .second, .val (.long (p1 >>> ((1 : Int32).toInt64 &&& 63))), .second, .val (.long (XT.ushrL (p2 &&& (9223372036854775807 : Int64)) (1 : Int32))), .second, .val (.long (p3 >>> ((1 : Int32).toInt64 &&& 63))), .second, .val (.ref a1), .val (.ref a3), .val (.double r1), .second, .val (.double r2), .second] [(.int (1 : Int32))])) (fun t kt => XS.goto X9.here hx rfl (pc0 := 145) (pc' := 149) rfl (hb hby at_145) (by decide) (by decide) kt) ?_
      exact ret_b X9 hx hlk hret (hb hby at_149) (by decide) (by decide) (⟨rfl, N9⟩)
    · refine Go.st (S' := T9.setTop (mkF m 150 #[.val (.long p0), .second, .val (.long p1), .second, .val (.long p2), .second, .val (.long p3), .second, .val (.long (XT.ushrL (p0 &&& (9223372036854775807 : Int64)) (1 : Int32))), .second, .val (.long (p1 >>> ((1 : Int32).toInt64 &&& 63))), .second, .val (.long (XT.ushrL (p2 &&& (9223372036854775807 : Int64)) (1 : Int32))), .second, .val (.long (p3 >>> ((1 : Int32).toInt64 &&& 63))), .second, .val (.ref a1), .val (.ref a3), .val (.double r1), .second, .val (.double r2), .second] [])) (fun t kt => XS.ifYes X9.here hx rfl (pc0 := 118) (pc' := 150) rfl (hb hby at_118) rfl (XT.ll_ge_t hc118_12) (by decide) (by decide) kt) ?_
      refine Go.st (S' := T9.setTop (mkF m 152 #[.val (.long p0), .second, .val (.long p1), .second, .val (.long p2), .second, .val (.long p3), .second, .val (.long (XT.ushrL (p0 &&& (9223372036854775807 : Int64)) (1 : Int32))), .second, .val (.long (p1 >>> ((1 : Int32).toInt64 &&& 63))), .second, .val (.long (XT.ushrL (p2 &&& (9223372036854775807 : Int64)) (1 : Int32))), .second, .val (.long (p3 >>> ((1 : Int32).toInt64 &&& 63))), .second, .val (.ref a1), .val (.ref a3), .val (.double r1), .second, .val (.double r2), .second] [(.double r1)])) (fun t kt => XS.dload X9.here hx rfl (hb hby at_150) rfl kt) ?_
      refine Go.st (S' := T9.setTop (mkF m 154 #[.val (.long p0), .second, .val (.long p1), .second, .val (.long p2), .second, .val (.long p3), .second, .val (.long (XT.ushrL (p0 &&& (9223372036854775807 : Int64)) (1 : Int32))), .second, .val (.long (p1 >>> ((1 : Int32).toInt64 &&& 63))), .second, .val (.long (XT.ushrL (p2 &&& (9223372036854775807 : Int64)) (1 : Int32))), .second, .val (.long (p3 >>> ((1 : Int32).toInt64 &&& 63))), .second, .val (.ref a1), .val (.ref a3), .val (.double r1), .second, .val (.double r2), .second] [(.double r1), (.double r1)])) (fun t kt => XS.dload X9.here hx rfl (hb hby at_152) rfl kt) ?_
      refine Go.st (S' := T9.setTop (mkF m 155 #[.val (.long p0), .second, .val (.long p1), .second, .val (.long p2), .second, .val (.long p3), .second, .val (.long (XT.ushrL (p0 &&& (9223372036854775807 : Int64)) (1 : Int32))), .second, .val (.long (p1 >>> ((1 : Int32).toInt64 &&& 63))), .second, .val (.long (XT.ushrL (p2 &&& (9223372036854775807 : Int64)) (1 : Int32))), .second, .val (.long (p3 >>> ((1 : Int32).toInt64 &&& 63))), .second, .val (.ref a1), .val (.ref a3), .val (.double r1), .second, .val (.double r2), .second] [(.int (cmpValue (FP.dcmp r1 r1) .l))])) (fun t kt => XS.dcmpS X9.here hx rfl (hb hby at_154) rfl rfl kt) ?_
      refine Go.st (S' := T9.setTop (mkF m 158 #[.val (.long p0), .second, .val (.long p1), .second, .val (.long p2), .second, .val (.long p3), .second, .val (.long (XT.ushrL (p0 &&& (9223372036854775807 : Int64)) (1 : Int32))), .second, .val (.long (p1 >>> ((1 : Int32).toInt64 &&& 63))), .second, .val (.long (XT.ushrL (p2 &&& (9223372036854775807 : Int64)) (1 : Int32))), .second, .val (.long (p3 >>> ((1 : Int32).toInt64 &&& 63))), .second, .val (.ref a1), .val (.ref a3), .val (.double r1), .second, .val (.double r2), .second] [])) (fun t kt => XS.ifNo X9.here hx rfl (hb hby at_155) rfl (XT.i0_eq_f (own_nan (by rw [hr1]; unfold own_bs; rw [if_neg hc84_11]))) kt) ?_
      refine Go.st (S' := T9.setTop (mkF m 160 #[.val (.long p0), .second, .val (.long p1), .second, .val (.long p2), .second, .val (.long p3), .second, .val (.long (XT.ushrL (p0 &&& (9223372036854775807 : Int64)) (1 : Int32))), .second, .val (.long (p1 >>> ((1 : Int32).toInt64 &&& 63))), .second, .val (.long (XT.ushrL (p2 &&& (9223372036854775807 : Int64)) (1 : Int32))), .second, .val (.long (p3 >>> ((1 : Int32).toInt64 &&& 63))), .second, .val (.ref a1), .val (.ref a3), .val (.double r1), .second, .val (.double r2), .second] [(.double r2)])) (fun t kt => XS.dload X9.here hx rfl (hb hby at_158) rfl kt) ?_
      refine Go.st (S' := T9.setTop (mkF m 162 #[.val (.long p0), .second, .val (.long p1), .second, .val (.long p2), .second, .val (.long p3), .second, .val (.long (XT.ushrL (p0 &&& (9223372036854775807 : Int64)) (1 : Int32))), .second, .val (.long (p1 >>> ((1 : Int32).toInt64 &&& 63))), .second, .val (.long (XT.ushrL (p2 &&& (9223372036854775807 : Int64)) (1 : Int32))), .second, .val (.long (p3 >>> ((1 : Int32).toInt64 &&& 63))), .second, .val (.ref a1), .val (.ref a3), .val (.double r1), .second, .val (.double r2), .second] [(.double r2), (.double r2)])) (fun t kt => XS.dload X9.here hx rfl (hb hby at_160) rfl kt) ?_
      refine Go.st (S' := T9.setTop (mkF m 163 #[.val (.long p0), .second, .val (.long p1), .second, .val (.long p2), .second, .val (.long p3), .second, .val (.long (XT.ushrL (p0 &&& (9223372036854775807 : Int64)) (1 : Int32))), .second, .val (.long (p1 >>> ((1 : Int32).toInt64 &&& 63))), .second, .val (.long (XT.ushrL (p2 &&& (9223372036854775807 : Int64)) (1 : Int32))), .second, .val (.long (p3 >>> ((1 : Int32).toInt64 &&& 63))), .second, .val (.ref a1), .val (.ref a3), .val (.double r1), .second, .val (.double r2), .second] [(.int (cmpValue (FP.dcmp r2 r2) .l))])) (fun t kt => XS.dcmpS X9.here hx rfl (hb hby at_162) rfl rfl kt) ?_
      refine Go.st (S' := T9.setTop (mkF m 166 #[.val (.long p0), .second, .val (.long p1), .second, .val (.long p2), .second, .val (.long p3), .second, .val (.long (XT.ushrL (p0 &&& (9223372036854775807 : Int64)) (1 : Int32))), .second, .val (.long (p1 >>> ((1 : Int32).toInt64 &&& 63))), .second, .val (.long (XT.ushrL (p2 &&& (9223372036854775807 : Int64)) (1 : Int32))), .second, .val (.long (p3 >>> ((1 : Int32).toInt64 &&& 63))), .second, .val (.ref a1), .val (.ref a3), .val (.double r1), .second, .val (.double r2), .second] [])) (fun t kt => XS.ifNo X9.here hx rfl (hb hby at_163) rfl (XT.i0_eq_f (own_nan (by rw [hr2]; unfold own_bs; rw [if_neg (own_zero hc84_11 hc118_12)]))) kt) ?_
      refine Go.st (S' := T9.setTop (mkF m 167 #[.val (.long p0), .second, .val (.long p1), .second, .val (.long p2), .second, .val (.long p3), .second, .val (.long (XT.ushrL (p0 &&& (9223372036854775807 : Int64)) (1 : Int32))), .second, .val (.long (p1 >>> ((1 : Int32).toInt64 &&& 63))), .second, .val (.long (XT.ushrL (p2 &&& (9223372036854775807 : Int64)) (1 : Int32))), .second, .val (.long (p3 >>> ((1 : Int32).toInt64 &&& 63))), .second, .val (.ref a1), .val (.ref a3), .val (.double r1), .second, .val (.double r2), .second] [(.int (1 : Int32))])) (fun t kt => XS.iconst X9.here hx rfl (hb hby at_166) kt) ?_
      refine Go.st (S' := T9.setTop (mkF m 171 #[.val (.long p0), .second, .val (.long p1), .second, .val (.long p2), .second, .val (.long p3), .second, .val (.long (XT.ushrL (p0 &&& (9223372036854775807 : Int64)) (1 : Int32))), .second, .val (.long (p1 >>> ((1 : Int32).toInt64 &&& 63))), .second, .val (.long (XT.ushrL (p2 &&& (9223372036854775807 : Int64)) (1 : Int32))), .second, .val (.long (p3 >>> ((1 : Int32).toInt64 &&& 63))), .second, .val (.ref a1), .val (.ref a3), .val (.double r1), .second, .val (.double r2), .second] [(.int (1 : Int32))])) (fun t kt => XS.goto X9.here hx rfl (pc0 := 167) (pc' := 171) rfl (hb hby at_167) (by decide) (by decide) kt) ?_
      exact ret_b X9 hx hlk hret (hb hby at_171) (by decide) (by decide) (⟨rfl, N9⟩)
set_option maxRecDepth 65536 in
set_option maxHeartbeats 40000000 in
theorem comes_1 {Post : Tables → Env → Array Value → State → Outcome → State → Prop} (hpost : ∀ tb e args s v u, (limb_1_1.after args s (.returned v) u = true ∧ limb_1_2.after args s (.returned v) u = true ∧ True) → FrameEnd s (.returned v) u (Jvm.fieldLocs frame_1_writes args s ++ Jvm.arrayLocs frame_1_arrays args s ++ Jvm.staticLocs frame_1_statics s) 16 128 → Post tb e args s (.returned v) u) :
    ArmFor flags0 classFile x code maxLocals ret World_1 tables_1 room_1 Calls_1 rest_1 Pre_1 Post := by
  intro l hfl _ _ p e ha hc hk s m args below hf hA hF happ hP
  obtain ⟨hcalls, hrest, hpre⟩ := hP
  obtain ⟨-, -, -, hnamed, -, hinit0, -, hat⟩ := (Spec.applies_iff hf).mp happ
  obtain ⟨hg, hn⟩ := and_e (Cond.before_iff.mp (show (Jvm.Cond.and given_1 narrow_1).before args s = true from hpre))
  obtain ⟨hcount, hgs⟩ := and_e hg
  obtain ⟨hg0, hgs⟩ := and_e hgs
  obtain ⟨hg1, hgs⟩ := and_e hgs
  obtain ⟨hg2, hg3⟩ := and_e hgs
  obtain ⟨w0, w1, w2, w3, rfl⟩ : ∃ w0 w1 w2 w3 : Value, args = #[w0, w1, w2, w3] := by
    have hs : args.size = 4 := by simpa [Cond.value, given_1] using hcount
    obtain ⟨L⟩ := args
    match L, hs with
    | [w0, w1, w2, w3], _ => exact ⟨w0, w1, w2, w3, rfl⟩
  have hw := fun d (hd : d ∈ tables_1) => atoms_spec (ws := Jvm.Cond.code x code maxLocals ret :: tables_1) hat d (List.mem_cons_of_mem _ hd)
  have hfit : Fit s := fun {y c} hc i hi => by
    obtain ⟨ha, rfl⟩ := Array.getElem?_eq_some_iff.mp hc
    have q := List.all_eq_true.mp ((Array.all_eq_true_iff_forall_mem.mp hF) _ (Array.getElem_mem ha)) i (List.mem_range.mpr hi)
    simpa [Array.getElem?_eq_getElem hi] using q
  obtain ⟨i0, ei0⟩ := isL_v hg0
  obtain rfl : w0 = (.long i0) := Option.some.inj ei0
  obtain ⟨i1, ei1⟩ := isL_v hg1
  obtain rfl : w1 = (.long i1) := Option.some.inj ei1
  obtain ⟨i2, ei2⟩ := isL_v hg2
  obtain rfl : w2 = (.long i2) := Option.some.inj ei2
  obtain ⟨i3, ei3⟩ := isL_v hg3
  obtain rfl : w3 = (.long i3) := Option.some.inj ei3
  obtain ⟨n, o, h1, h2, h3, _, L, rfl, ⟨rfl, N⟩, hq⟩ := rm0 l s _ hw i0 i1 i2 i3 s.heap s.heap.size (Nat.le_refl _)  tables_1 p e ha hc hk s m _ below hf ((Spec.applies_iff_loose hf).mp happ).1 ⟨rfl, State.Warmed39.refl s, rfl⟩ trivial
  refine ⟨n, _, h1, h2, h3, hpost _ _ _ _ _ _ ⟨Cond.after_iff.mpr rfl, Cond.after_iff.mpr (eq_i res_at (Term.int_eval (1)) rfl), trivial⟩ ⟨hq.1, hq.2.1, (hq.2.2.sift fun y hy => Or.inr (N y hy)).mono (by decide) (by decide)⟩⟩
theorem main_1_1 : Claimed_1_1 := comes_1 fun _ _ _ _ _ _ h hF => ⟨h.1, hF⟩
theorem main_1_2 : Claimed_1_2 := comes_1 fun _ _ _ _ _ _ h hF => ⟨h.2.1, hF⟩
end Jvm.Pilot.@@N@@
namespace Jvm.Pilot.@@N@@
open Jvm Jvm.ClassFile Sem Op Lib Jvm.Free Jvm.Stand Jvm.Pilot.@@N@@.Jvm.D
/-! MADE BY PROGRAM (witnessworld.py) out of the Statement's table words and the real class files: 10 classes; the members and pool entries that the words name. The judged class is class 1, her method 1. -/
namespace start1
open Jvm.ClassFile
def u (s : String) : CpInfo := .utf8 (stringToUtf16 s)
/-- a pool by its gaps: so many unusable entries, then the entry; so many at the end -/
def gap : Nat → List CpInfo → List CpInfo
  | 0, r => r
  | n + 1, r => .unusable :: gap n r
def poolList (es : List (Nat × CpInfo)) (last : Nat) : List CpInfo := es.foldr (fun e r => gap e.1 (e.2 :: r)) (gap last [])
def pool (es : List (Nat × CpInfo)) (last : Nat) : Array CpInfo := ⟨poolList es last⟩
def fileOf (pool : Array CpInfo) (this : Nat) (attrs : Array Attribute := #[]) (ms : Array MethodInfo := #[]) (fl : Nat := 33) (sup : Nat := 0) (ifs : Array Nat := #[]) (fds : Array FieldInfo := #[]) : ClassFile where
  minorVersion := 0
  majorVersion := 65
  constantPool := pool
  accessFlags := fl
  thisClass := this
  superClass := sup
  interfaces := ifs
  fields := fds
  methods := ms
  attributes := attrs
def plain (name : String) (sup : Option ClassId) : Class where
  name := name
  kind := .ordinary
  loader := none
  accessFlags := 33
  super := sup
  interfaces := #[]
  cf := none
  fields := #[]
  methods := #[]
  instanceTypes := #[]
  staticTypes := #[]
  resolved := #[]
  callSites := []
  init := .initialized
  statics := none
  mirror := none

def pool0 : Array CpInfo := pool [(5, u "<init>"), (0, u "()V"), (1, .class_ 10), (1, u "java/lang/Object")] 113

def k0c0 : Code := { maxStack := 0, maxLocals := 1, code := object_method_1_code, exceptionTable := #[], attributes := #[] }
def k0m0 : Method := { name := "<init>", desc := "()V", sig := { parameters := [], returnType := none }, accessFlags := 1, code := some k0c0 }
/-- java/lang/Object -/
def k0 : Class := { plain "java/lang/Object" none with
  accessFlags := 33
  interfaces := #[]
  cf := some (fileOf pool0 8 #[] #[{ accessFlags := 1, nameIndex := 5, descriptorIndex := 6, attributes := #[] }] 33 0 #[] #[])
  fields := #[]
  methods := #[k0m0]
  instanceTypes := #[]
  staticTypes := #[]
  resolved := Array.replicate 124 none
  statics := none }

def pool1 : Array CpInfo := pool [(2, .class_ 4), (1, u "java/lang/Object"), (0, u "<init>"), (0, u "()V"), (2, .long 9223372036854775807), (1, .class_ 12), (0, u "com/example/forecache/forecache/MachineLoad$Ticks"), (0, .methodref 11 14), (0, .nameAndType 5 15), (0, u "(JJ)V"), (0, .methodref 11 17), (0, .nameAndType 18 19), (0, u "busySince"), (0, u "(Lcom/example/forecache/forecache/MachineLoad$Ticks;)D"), (0, .class_ 21), (0, u "com/example/forecache/forecache/TicksBusySincePinLaw"), (2, u "law"), (0, u "(JJJJ)Z")] 7

def k1m0 : Method := { name := "<init>", desc := "()V", sig := { parameters := [], returnType := none }, accessFlags := 1, code := none }
def k1c1 : Code := { maxStack := 8, maxLocals := 22, code := code, exceptionTable := #[], attributes := #[] }
def k1m1 : Method := { name := "law", desc := "(JJJJ)Z", sig := { parameters := [.long, .long, .long, .long], returnType := some .boolean }, accessFlags := 9, code := some k1c1 }
/-- com/example/forecache/forecache/TicksBusySincePinLaw -/
def k1 : Class := { plain "com/example/forecache/forecache/TicksBusySincePinLaw" (some 0) with
  accessFlags := 49
  interfaces := #[]
  cf := some (fileOf pool1 20 #[] #[{ accessFlags := 1, nameIndex := 5, descriptorIndex := 6, attributes := #[] }, { accessFlags := 9, nameIndex := 24, descriptorIndex := 25, attributes := #[] }] 49 2 #[] #[])
  fields := #[]
  methods := #[k1m0, k1m1]
  instanceTypes := #[]
  staticTypes := #[]
  resolved := Array.replicate 33 none
  statics := none }

def pool2 : Array CpInfo := pool [(1, .methodref 2 3), (0, .class_ 4), (0, .nameAndType 5 6), (0, u "java/lang/Object"), (0, u "<init>"), (0, u "()V"), (0, .class_ 8), (0, u "java/lang/Record")] 13

def k2c0 : Code := { maxStack := 1, maxLocals := 1, code := jdk_30_method_1_code, exceptionTable := #[], attributes := #[] }
def k2m0 : Method := { name := "<init>", desc := "()V", sig := { parameters := [], returnType := none }, accessFlags := 4, code := some k2c0 }
/-- java/lang/Record -/
def k2 : Class := { plain "java/lang/Record" (some 0) with
  accessFlags := 1057
  interfaces := #[]
  cf := some (fileOf pool2 7 #[] #[{ accessFlags := 4, nameIndex := 5, descriptorIndex := 6, attributes := #[] }] 1057 2 #[] #[])
  fields := #[]
  methods := #[k2m0]
  instanceTypes := #[]
  staticTypes := #[]
  resolved := Array.replicate 22 none
  statics := none }

def pool3 : Array CpInfo := pool [(1, .methodref 2 3), (0, .class_ 4), (0, .nameAndType 5 6), (0, u "java/lang/Record"), (0, u "<init>"), (0, u "()V"), (0, .fieldref 8 9), (0, .class_ 10), (0, .nameAndType 11 12), (0, u "com/example/forecache/forecache/MachineLoad$Ticks"), (0, u "busy"), (0, u "J"), (0, .fieldref 8 14), (0, .nameAndType 15 12), (0, u "total"), (2, .double 9221120237041090560), (15, u "(JJ)V"), (2, u "NONE"), (0, u "Lcom/example/forecache/forecache/MachineLoad$Ticks;"), (3, u "busySince"), (0, u "(Lcom/example/forecache/forecache/MachineLoad$Ticks;)D"), (9, .class_ 54), (0, u "com/example/forecache/forecache/MachineLoad")] 20

def k3c0 : Code := { maxStack := 3, maxLocals := 5, code := prog_56_method_1_code, exceptionTable := #[], attributes := #[] }
def k3m0 : Method := { name := "<init>", desc := "(JJ)V", sig := { parameters := [.long, .long], returnType := none }, accessFlags := 0, code := some k3c0 }
def k3c1 : Code := { maxStack := 4, maxLocals := 4, code := prog_56_method_2_code, exceptionTable := #[], attributes := #[] }
def k3m1 : Method := { name := "busySince", desc := "(Lcom/example/forecache/forecache/MachineLoad$Ticks;)D", sig := { parameters := [(.object "com/example/forecache/forecache/MachineLoad$Ticks")], returnType := some .double }, accessFlags := 0, code := some k3c1 }
/-- com/example/forecache/forecache/MachineLoad$Ticks -/
def k3 : Class := { plain "com/example/forecache/forecache/MachineLoad$Ticks" (some 2) with
  accessFlags := 48
  interfaces := #[]
  cf := some (fileOf pool3 8 #[.nestHost 53] #[{ accessFlags := 0, nameIndex := 5, descriptorIndex := 34, attributes := #[] }, { accessFlags := 0, nameIndex := 42, descriptorIndex := 43, attributes := #[] }] 48 2 #[] #[{ accessFlags := 18, nameIndex := 11, descriptorIndex := 12, attributes := #[] }, { accessFlags := 18, nameIndex := 15, descriptorIndex := 12, attributes := #[] }, { accessFlags := 24, nameIndex := 37, descriptorIndex := 38, attributes := #[] }])
  fields := #[{ name := "busy", type := .long, accessFlags := 18, slot := 0, constantValue := 0 }, { name := "total", type := .long, accessFlags := 18, slot := 1, constantValue := 0 }, { name := "NONE", type := (.object "com/example/forecache/forecache/MachineLoad$Ticks"), accessFlags := 24, slot := 0, constantValue := 0 }]
  methods := #[k3m0, k3m1]
  instanceTypes := #[.long, .long]
  staticTypes := #[(.object "com/example/forecache/forecache/MachineLoad$Ticks")]
  resolved := Array.replicate 75 none
  statics := none }

def pool4 : Array CpInfo := pool [(1, u "java/lang/Cloneable"), (0, .class_ 1), (0, u "java/lang/Object"), (0, .class_ 3)] 3

/-- java/lang/Cloneable -/
def k4 : Class := { plain "java/lang/Cloneable" (some 0) with
  accessFlags := 1537
  interfaces := #[]
  cf := some (fileOf pool4 2 #[] #[] 1537 4 #[] #[])
  fields := #[]
  methods := #[]
  instanceTypes := #[]
  staticTypes := #[]
  resolved := Array.replicate 8 none
  statics := none }

def pool5 : Array CpInfo := pool [(1, u "java/io/Serializable"), (0, .class_ 1), (0, u "java/lang/Object"), (0, .class_ 3)] 3

/-- java/io/Serializable -/
def k5 : Class := { plain "java/io/Serializable" (some 0) with
  accessFlags := 1537
  interfaces := #[]
  cf := some (fileOf pool5 2 #[] #[] 1537 4 #[] #[])
  fields := #[]
  methods := #[]
  instanceTypes := #[]
  staticTypes := #[]
  resolved := Array.replicate 8 none
  statics := none }

/-- the primitive byte -/
def k6 : Class := { plain "byte" none with kind := .primitive 'B', accessFlags := 0x411 }
/-- [B -/
def k7 : Class := { plain "[B" (some 0) with kind := .array 6 .byte, interfaces := #[4, 5], accessFlags := 1041 }

/-- the primitive int -/
def k8 : Class := { plain "int" none with kind := .primitive 'I', accessFlags := 0x411 }
/-- [I -/
def k9 : Class := { plain "[I" (some 0) with kind := .array 8 .int, interfaces := #[4, 5], accessFlags := 1041 }

def heap : Heap := #[]
def classes : Array Class := #[k0, k1, k2, k3, k4, k5, k6, k7, k8, k9]
def interned : List (Array UInt16 × Addr) := []
def slotsUsed : Nat := 0
def theMethod : MethodId := ⟨1, 1⟩
def args0 : Array Value := #[.long 5, .long 6, .long 7, .long 8]
def aboutOver (below : List Frame) : State where
  vm := { classes := classes, interned := interned.toArray }
  heap := heap
  slotsUsed := slotsUsed
  threads := #[{ frames := .invoking theMethod args0 :: below }]
def below0 : List Frame := [.native { method := ⟨0, 0⟩, args := #[] }]
def about1 : State := aboutOver below0
def p0 : Program := .bare "" "" ""
def e0 : Env := launch0.env 0 0 0
theorem w_frames : about1.frames = Frame.invoking theMethod args0 :: below0 := rfl
set_option maxRecDepth 65536 in
theorem w_args : argsFit about1.vm theMethod args0 = true := by decide +kernel
set_option maxRecDepth 65536 in
theorem w_heap : heapFits about1 = true := by decide +kernel
set_option maxRecDepth 65536 in
theorem w_runnable : about1.curStatus? = some .runnable := by decide +kernel
set_option maxRecDepth 65536 in
theorem w_alone : about1.alone = true := by decide +kernel
set_option maxRecDepth 65536 in
theorem w_named : about1.methodNamed? x = some theMethod := by decide +kernel
set_option maxRecDepth 65536 in
theorem w_hears : about1.hears theMethod below0 = true := by decide +kernel
set_option maxRecDepth 65536 in
theorem w_ripe : about1.ripe theMethod args0 below0 = true := by decide +kernel
theorem w_running : about1.status = .running := rfl
set_option maxRecDepth 65536 in
theorem w_room : about1.hasRoom e0.platform room_1 = true :=
  launch0.hasRoom_least _ room_1 (by decide +kernel) (by decide +kernel) (by decide +kernel) (by decide +kernel) (by decide +kernel) (by decide +kernel)
theorem allAtoms_all (ts : List Jvm.Cond) (a : Array Jvm.Value) (st : Jvm.State) : (allAtoms ts).before a st = ts.all (fun c => c.before a st) := by
  induction ts with
  | nil => rfl
  | cons c t ih =>
    show (Jvm.Cond.and c (allAtoms t)).before a st = _
    rw [Jvm.Cond.before_and, ih, List.all_cons]
def words1 : List Jvm.Cond := Jvm.Cond.code x code maxLocals ret :: tables_1
/-- a 'code' word, met by the world's own term for the bytes: nothing is compared byte by byte -/
theorem code_word {y : MethodName} {bytes : ByteArray} {mx : Nat} {rt : Option FieldType} {a : Array Value} {s : State} {m : MethodId} {meth : Method} {c : Code} (h1 : s.methodNamed? y = some m) (h2 : s.vm.method? m = some meth) (h3 : meth.code = some c) (h4 : c.code = bytes)
    (h5 : (c.maxLocals == mx && c.exceptionTable.isEmpty && decide (c.maxStack ≤ mostOperands) && decide (meth.sig.returnType = rt) && !meth.locks && decide (parseMethodDescriptor y.desc = some meth.sig)) = true) : (Jvm.Cond.code y bytes mx rt).before a s = true := by
  simp only [Bool.and_eq_true, beq_iff_eq, Bool.not_eq_true', decide_eq_true_eq] at h5
  obtain ⟨⟨⟨⟨⟨g1, g2⟩, g3⟩, g4⟩, g5⟩, g6⟩ := h5
  simp [Cond.before, Cond.holds, Cond.value, h1, h2, h3, h4, g1, g2, g3, g4, g5, g6]
def isCode : Jvm.Cond → Bool
  | .code _ _ _ _ => true
  | _ => false
theorem all_split {L : List Jvm.Cond} {P : Jvm.Cond → Bool} (h1 : L.all (fun c => isCode c || P c) = true) (h2 : ∀ c ∈ L.filter isCode, P c = true) : L.all P = true := by
  refine List.all_eq_true.mpr fun c hc => ?_
  have h := List.all_eq_true.mp h1 c hc
  rcases Bool.eq_false_or_eq_true (isCode c) with hi | hi
  · exact h2 c (List.mem_filter.mpr ⟨hc, hi⟩)
  · simpa [hi] using h
set_option maxRecDepth 65536 in
theorem w_c0 : (Jvm.Cond.code x code maxLocals ret).before args0 about1 = true := code_word (m := ⟨1, 1⟩) (meth := k1m1) (c := k1c1) (by decide +kernel) rfl rfl rfl (by decide +kernel)
set_option maxRecDepth 65536 in
theorem w_c1 : (Jvm.Cond.code ({ cls := "com/example/forecache/forecache/MachineLoad$Ticks", name := "<init>", desc := "(JJ)V" } : Jvm.MethodName) prog_56_method_1_code (5 : Nat) (Option.none : Option Jvm.ClassFile.FieldType)).before args0 about1 = true := code_word (m := ⟨3, 0⟩) (meth := k3m0) (c := k3c0) (by decide +kernel) rfl rfl rfl (by decide +kernel)
set_option maxRecDepth 65536 in
theorem w_c2 : (Jvm.Cond.code ({ cls := "java/lang/Record", name := "<init>", desc := "()V" } : Jvm.MethodName) jdk_30_method_1_code (1 : Nat) (Option.none : Option Jvm.ClassFile.FieldType)).before args0 about1 = true := code_word (m := ⟨2, 0⟩) (meth := k2m0) (c := k2c0) (by decide +kernel) rfl rfl rfl (by decide +kernel)
set_option maxRecDepth 65536 in
theorem w_c3 : (Jvm.Cond.code ({ cls := "java/lang/Object", name := "<init>", desc := "()V" } : Jvm.MethodName) object_method_1_code (1 : Nat) (Option.none : Option Jvm.ClassFile.FieldType)).before args0 about1 = true := code_word (m := ⟨0, 0⟩) (meth := k0m0) (c := k0c0) (by decide +kernel) rfl rfl rfl (by decide +kernel)
set_option maxRecDepth 65536 in
theorem w_c4 : (Jvm.Cond.code ({ cls := "com/example/forecache/forecache/MachineLoad$Ticks", name := "busySince", desc := "(Lcom/example/forecache/forecache/MachineLoad$Ticks;)D" } : Jvm.MethodName) prog_56_method_2_code (4 : Nat) (Option.some Jvm.ClassFile.FieldType.double)).before args0 about1 = true := code_word (m := ⟨3, 1⟩) (meth := k3m1) (c := k3c1) (by decide +kernel) rfl rfl rfl (by decide +kernel)
def codes1 : List Jvm.Cond := [Jvm.Cond.code x code maxLocals ret, Jvm.Cond.code ({ cls := "com/example/forecache/forecache/MachineLoad$Ticks", name := "<init>", desc := "(JJ)V" } : Jvm.MethodName) prog_56_method_1_code (5 : Nat) (Option.none : Option Jvm.ClassFile.FieldType), Jvm.Cond.code ({ cls := "java/lang/Record", name := "<init>", desc := "()V" } : Jvm.MethodName) jdk_30_method_1_code (1 : Nat) (Option.none : Option Jvm.ClassFile.FieldType), Jvm.Cond.code ({ cls := "java/lang/Object", name := "<init>", desc := "()V" } : Jvm.MethodName) object_method_1_code (1 : Nat) (Option.none : Option Jvm.ClassFile.FieldType), Jvm.Cond.code ({ cls := "com/example/forecache/forecache/MachineLoad$Ticks", name := "busySince", desc := "(Lcom/example/forecache/forecache/MachineLoad$Ticks;)D" } : Jvm.MethodName) prog_56_method_2_code (4 : Nat) (Option.some Jvm.ClassFile.FieldType.double)]
set_option maxRecDepth 65536 in
theorem codes_eq : words1.filter isCode = codes1 := rfl
theorem w_codes : ∀ c ∈ words1.filter isCode, c.before args0 about1 = true := by
  rw [codes_eq]
  intro c hc
  simp only [codes1, List.mem_cons, List.not_mem_nil, or_false] at hc
  rcases hc with rfl | rfl | rfl | rfl | rfl
  · exact w_c0
  · exact w_c1
  · exact w_c2
  · exact w_c3
  · exact w_c4
set_option maxRecDepth 65536 in
theorem w_t1 : (words1.take 24).all (fun c => isCode c || c.before args0 about1) = true := by decide +kernel
set_option maxRecDepth 65536 in
theorem w_t2 : (words1.drop 24).all (fun c => isCode c || c.before args0 about1) = true := by decide +kernel
theorem w_tables : (allAtoms (Jvm.Cond.code x code maxLocals ret :: tables_1)).before args0 about1 = true := by
  rw [allAtoms_all]
  show words1.all (fun c => c.before args0 about1) = true
  refine all_split ?_ w_codes
  rw [← List.take_append_drop 24 words1, List.all_append, w_t1, w_t2]
  rfl
set_option maxRecDepth 65536 in
theorem w_case : (Jvm.Cond.and given_1 narrow_1).before args0 about1 = true := by decide +kernel
theorem w_applies : (headSpec (Jvm.Cond.code x code maxLocals ret :: tables_1) room_1).applies x e0.platform about1 = true :=
  (Spec.applies_iff w_frames).mpr ⟨w_running, w_runnable, w_alone, w_named, w_hears, w_ripe, w_room, w_tables⟩
theorem atStart : AtStart classFile x code maxLocals ret World_1 tables_1 room_1 Calls_1 rest_1 Pre_1 launch0 p0 e0 about1 theMethod args0 below0 :=
  ⟨lists_1, trivial, launch0.admits_env _ _ _, launch0.least_env, fairChoices_fair.cas, fairChoices_fair.clock, w_frames, w_args, w_heap, w_applies, trivial, trivial, w_case⟩
end start1
theorem witness_1 : WitnessClaimed_1 := ⟨start1.p0, start1.e0, start1.about1, start1.theMethod, start1.args0, start1.below0, start1.atStart⟩
end Jvm.Pilot.@@N@@
