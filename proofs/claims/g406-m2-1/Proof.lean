import JvmDerived
import JvmDerived.Pilot.@@N@@Statement
import JvmDerived.Pilot.@@N@@Code
set_option linter.unusedVariables false
set_option linter.unusedSimpArgs false
namespace Jvm.Pilot.@@N@@
open Jvm Jvm.ClassFile Sem Op Lib Jvm.Free Jvm.Stand Jvm.LawKit Jvm.RoadKit Bundle Jvm.Pilot.@@N@@.Jvm.D
/-! own kit: a walk that goes forward: Go says what is still owed from the state S -/
section OwnGo
variable {p : Program} {l : Launch} {e : Env} {R : Room} {s : State} {m : MethodId} {args : Array Value} {below : List Frame} {meth : Method} {c : Code} {T : State} {locs : List Loc} {cells slots : Nat} {Z : State} {a0 : Array Value} {h : Heap} {G : Outcome → State → Prop} {S S' : State}
def Go (p : Program) (e : Env) (below : List Frame) (G : Outcome → State → Prop) (S : State) : Prop :=
  ∃ s₂ o, Steps p.tables e below S s₂ ∧ s₂.status = .running ∧ Ended s₂ below o ∧ G o s₂
theorem Go.st (h : ∀ t, Steps p.tables e below S' t → Steps p.tables e below S t) (k : Go p e below G S') : Go p e below G S := by
  obtain ⟨s₂, o, h1, h2⟩ := k
  exact ⟨s₂, o, h _ h1, h2⟩
theorem Go.tr (h : Steps p.tables e below S S') (k : Go p e below G S') : Go p e below G S := by
  obtain ⟨s₂, o, h1, h2⟩ := k
  exact ⟨s₂, o, h.trans h1, h2⟩
theorem Go.cast {g g' : JFrame} (q : g = g') (k : Go p e below G (T.setTop g')) : Go p e below G (T.setTop g) := q ▸ k
/-- what a body leaves: Q of the value, the heap and the places written -/
def Left (s : State) (K N : Nat) (Q : Option Value → Heap → List Loc → Prop) : Outcome → State → Prop :=
  fun o t => ∃ v L, o = .returned v ∧ Q v t.heap L ∧ FrameEnd s o t L K N
/-- a body's contract -/
def Pays (l : Launch) (y : MethodName) (bytes : ByteArray) (maxL : Nat) (ret : Option FieldType) (rm : Room) (Z : State) (as' : Array Value) (h0 : Heap) (Q : Option Value → Heap → List Loc → Prop) : Prop :=
  ∀ ws, MetFree l y (head1 (Cond.code y bytes maxL ret :: ws) rm) (fun a U => a = as' ∧ Z.Warmed39 U.vm ∧ U.heap = h0) (fun _ _ _ _ _ => True) (fun _ U o U' => ∃ v L, o = .returned v ∧ Q v U'.heap L ∧ FrameEnd U o U' L rm.cells rm.slots)
theorem Pays.of {y : MethodName} {bytes : ByteArray} {maxL : Nat} {ret : Option FieldType} {rm : Room} {as' : Array Value} {h0 : Heap} {Q : Option Value → Heap → List Loc → Prop} (hx : plainFor y = true)
    (body : ∀ (p : Program) (e : Env) (s : State) (m : MethodId) (below : List Frame) (meth : Method) (c : Code) (T : State), p.tables.exec = Jvm.exec → c.code = bytes → c.maxLocals = maxL → meth.sig.returnType = ret → meth.locks = false → Z.Warmed39 s.vm → s.vm.findClass y.cls = some m.cls → meth.name = y.name →
      T.heap = h0 → Stand p l e rm s m as' below meth c T [] 0 0 → Go p e below (Left s rm.cells rm.slots Q) (T.setTop (entryFrame m as' maxL))) : Pays l y bytes maxL ret rm Z as' h0 Q := by
  intro ws
  refine MetFree.of_bodySF hx hisR ?_
  intro p e s m args below meth c s₁ Bd hml0 hP hK
  obtain ⟨rfl, hZ, hh⟩ := hP
  exact body p e s m below meth c s₁ Bd.exec Bd.bytes hml0 Bd.returns Bd.notSynchronized hZ (findClass_of_methodNamed Bd.named) (name_of_methodNamed Bd.named Bd.method).1 (by rw [← hh, Bd.state]; rfl) (Stand.of_body Bd)
theorem Go.out (X : Stand p l e R s m args below meth c T locs cells slots) {v : Option Value} {K N : Nat} {Q : Option Value → Heap → List Loc → Prop} (hlocks : meth.locks = false) (hv : meth.sig.returnType = none → v = none) (hK : cells ≤ K) (hN : slots ≤ N) (hQ : Q v T.heap locs)
    (st : ∀ fs, (∀ (f : JFrame) (acts : List Action), f.method = m → f.locked = none → f.entered = [] → (doReturn e (T.setTop f) acts v).1 = T.setFrames fs) → Steps p.tables e below S (T.setFrames fs)) : Go p e below (Left s K N Q) S := by
  obtain ⟨fs, hr, hrun, hended, hW, hsame⟩ := X.leave hv hlocks
  exact ⟨_, _, st fs hr, hrun, hended, v, locs, rfl, hQ, ⟨_, rfl⟩, hW, hsame.mono hK hN⟩
theorem ret_b (X : Stand p l e R s m args below meth c T locs cells slots) (hx : p.tables.exec = Jvm.exec) (hlocks : meth.locks = false) (hret : meth.sig.returnType = some .boolean) {pc : Nat} {Ls : Array Slot} {z : Int32} {rest : List Value} {K N : Nat} {Q : Option Value → Heap → List Loc → Prop} (hd : decode c.code pc = .ok (.ireturn, 1)) (hK : cells ≤ K) (hN : slots ≤ N)
    (hQ : Q (some (.int (z &&& 1))) T.heap locs) : Go p e below (Left s K N Q) (T.setTop (mkF m pc Ls (.int z :: rest))) :=
  Go.out X (v := some (.int (z &&& 1))) hlocks (fun h => by rw [hret] at h; cases h) hK hN hQ fun fs hr => retN X hx (t := .boolean) hret (by simp) hd hr
theorem ret_c (X : Stand p l e R s m args below meth c T locs cells slots) (hx : p.tables.exec = Jvm.exec) (hlocks : meth.locks = false) (hret : meth.sig.returnType = some .char) {pc : Nat} {Ls : Array Slot} {z : Int32} {rest : List Value} {K N : Nat} {Q : Option Value → Heap → List Loc → Prop} (hd : decode c.code pc = .ok (.ireturn, 1)) (hK : cells ≤ K) (hN : slots ≤ N)
    (hQ : Q (some (.int (nar .char z))) T.heap locs) : Go p e below (Left s K N Q) (T.setTop (mkF m pc Ls (.int z :: rest))) :=
  Go.out X (v := some (.int (nar .char z))) hlocks (fun h => by rw [hret] at h; cases h) hK hN hQ fun fs hr => retN X hx (t := .char) hret (by simp) hd hr
theorem ret_y (X : Stand p l e R s m args below meth c T locs cells slots) (hx : p.tables.exec = Jvm.exec) (hlocks : meth.locks = false) (hret : meth.sig.returnType = some .byte) {pc : Nat} {Ls : Array Slot} {z : Int32} {rest : List Value} {K N : Nat} {Q : Option Value → Heap → List Loc → Prop} (hd : decode c.code pc = .ok (.ireturn, 1)) (hK : cells ≤ K) (hN : slots ≤ N)
    (hQ : Q (some (.int (nar .byte z))) T.heap locs) : Go p e below (Left s K N Q) (T.setTop (mkF m pc Ls (.int z :: rest))) :=
  Go.out X (v := some (.int (nar .byte z))) hlocks (fun h => by rw [hret] at h; cases h) hK hN hQ fun fs hr => retN X hx (t := .byte) hret (by simp) hd hr
theorem ret_i (X : Stand p l e R s m args below meth c T locs cells slots) (hx : p.tables.exec = Jvm.exec) (hlocks : meth.locks = false) (hret : meth.sig.returnType = some .int) {pc : Nat} {Ls : Array Slot} {z : Int32} {rest : List Value} {K N : Nat} {Q : Option Value → Heap → List Loc → Prop} (hd : decode c.code pc = .ok (.ireturn, 1)) (hK : cells ≤ K) (hN : slots ≤ N)
    (hQ : Q (some (.int z)) T.heap locs) : Go p e below (Left s K N Q) (T.setTop (mkF m pc Ls (.int z :: rest))) :=
  Go.out X (v := some (.int z)) hlocks (fun h => by rw [hret] at h; cases h) hK hN hQ fun fs hr => retOut X hx hret rfl (Or.inl ⟨rfl, Or.inl rfl, z, rfl⟩) hd hr
theorem ret_l (X : Stand p l e R s m args below meth c T locs cells slots) (hx : p.tables.exec = Jvm.exec) (hlocks : meth.locks = false) (hret : meth.sig.returnType = some .long) {pc : Nat} {Ls : Array Slot} {z : Int64} {rest : List Value} {K N : Nat} {Q : Option Value → Heap → List Loc → Prop} (hd : decode c.code pc = .ok (.lreturn, 1)) (hK : cells ≤ K) (hN : slots ≤ N)
    (hQ : Q (some (.long z)) T.heap locs) : Go p e below (Left s K N Q) (T.setTop (mkF m pc Ls (.long z :: rest))) :=
  Go.out X (v := some (.long z)) hlocks (fun h => by rw [hret] at h; cases h) hK hN hQ fun fs hr => retOut X hx hret rfl (Or.inr (Or.inl ⟨rfl, rfl, z, rfl⟩)) hd hr
theorem ret_d (X : Stand p l e R s m args below meth c T locs cells slots) (hx : p.tables.exec = Jvm.exec) (hlocks : meth.locks = false) (hret : meth.sig.returnType = some .double) {pc : Nat} {Ls : Array Slot} {z : UInt64} {rest : List Value} {K N : Nat} {Q : Option Value → Heap → List Loc → Prop} (hd : decode c.code pc = .ok (.dreturn, 1)) (hK : cells ≤ K) (hN : slots ≤ N)
    (hQ : Q (some (.double z)) T.heap locs) : Go p e below (Left s K N Q) (T.setTop (mkF m pc Ls (.double z :: rest))) :=
  Go.out X (v := some (.double z)) hlocks (fun h => by rw [hret] at h; cases h) hK hN hQ fun fs hr => retOut X hx hret rfl (Or.inr (Or.inr (Or.inl ⟨rfl, rfl, z, rfl⟩))) hd hr
theorem ret_a (X : Stand p l e R s m args below meth c T locs cells slots) (hx : p.tables.exec = Jvm.exec) (hlocks : meth.locks = false) {t : FieldType} (hret : meth.sig.returnType = some t) (ht : t.isReference = true) {pc : Nat} {Ls : Array Slot} {v : Value} (hv : v.isRef = true) {rest : List Value} {K N : Nat} {Q : Option Value → Heap → List Loc → Prop} (hd : decode c.code pc = .ok (.areturn, 1)) (hK : cells ≤ K) (hN : slots ≤ N)
    (hQ : Q (some v) T.heap locs) : Go p e below (Left s K N Q) (T.setTop (mkF m pc Ls (v :: rest))) :=
  Go.out X (v := some v) hlocks (fun h => by rw [hret] at h; cases h) hK hN hQ fun fs hr => retOut X hx hret (by rcases ref_cases hv with rfl | ⟨a, rfl⟩ <;> cases t <;> first | rfl | cases ht) (Or.inr (Or.inr (Or.inr (Or.inr ⟨rfl, ht, hv⟩)))) hd hr
theorem ret_v (X : Stand p l e R s m args below meth c T locs cells slots) (hx : p.tables.exec = Jvm.exec) (hlocks : meth.locks = false) (hret : meth.sig.returnType = none) {pc : Nat} {Ls : Array Slot} {K N : Nat} {Q : Option Value → Heap → List Loc → Prop} (hd : decode c.code pc = .ok (.return_, 1)) (hK : cells ≤ K) (hN : slots ≤ N)
    (hQ : Q none T.heap locs) : Go p e below (Left s K N Q) (T.setTop (mkF m pc Ls [])) :=
  Go.out X (v := none) hlocks (fun _ => rfl) hK hN hQ fun fs hr => X.returnOut hx hret hd hr
/-- a call of an instance method, by its contract -/
theorem Go.virt (X : Stand p l e R s m args below meth c T locs cells slots) (hx : p.tables.exec = Jvm.exec) (hZ : Z.Warmed39 s.vm) {own C : String} {index : Nat} {y z : MethodName} (hown : s.vm.findClass own = some m.cls) (wl : (Cond.methodLink own index y).before a0 Z = true) (wd : (Cond.declares y).before a0 Z = true) (nf : NotFace s y)
    (wsel : (Cond.selects C y z).before a0 Z = true) (wi : (Cond.instanceMethod z).before a0 Z = true) {bytes : ByteArray} {maxL : Nat} {ret : Option FieldType} (wc : (Cond.code z bytes maxL ret).before a0 Z = true) (wz : (Cond.initialized z.cls).before a0 Z = true) (hy : y.cls ≠ "java/lang/invoke/MethodHandle" ∧ y.cls ≠ "java/lang/invoke/VarHandle")
    {rm : Room} {Q : Option Value → Heap → List Loc → Prop} {b : Addr} {argsL rest : List Value} (P : Pays l z bytes maxL ret rm Z (.ref b :: argsL).toArray h Q) (eT : T.heap = h) (E : Exa Z h b C) {pc : Nat} {Ls : Array Slot} {st : List Value} (hst : st = argsL.reverse ++ .ref b :: rest) (hsz : Ls.size = c.maxLocals) {ps : List FieldType} {r : Option FieldType} (hpd : parseMethodDescriptor y.desc = some ⟨ps, r⟩) (hlen : argsL.length = ps.length)
    (hd : decode c.code pc = .ok (.invokevirtual index, 3)) (W : Nat) (hW : (rest.map fun v => v.category).sum ≤ W) (hf : rm.frames + 1 ≤ R.frames) (hl : W + (maxL + 11) + rm.locals ≤ R.locals) (hc : cells + rm.cells ≤ R.cells) (hs : slots + rm.slots ≤ R.slots)
    (k : ∀ (v : Option Value) (T' : State) (L : List Loc), Stand p l e R s m args below meth c T' (locs ++ L) (cells + rm.cells) (slots + rm.slots) → Q v T'.heap L → Go p e below G (T'.setTop (mkF m (pc + 3) Ls (v.toList ++ rest)))) : Go p e below G (T.setTop (mkF m pc Ls st)) := by
  obtain ⟨cB, kB, hcB, -, hrecv⟩ := isOf hZ eT E
  obtain ⟨v, _, ⟨T', L', k', n'⟩, -, X', ⟨L, hQ, h1, h2, h3⟩, stp⟩ := X.virtualBack hx hown (mvT hZ wl) (mvT hZ wd) nf (mvT hZ wsel) (mvT hZ wi) hy (backOf (W := W) (P []) hZ wc wz hf hl) hcB hrecv (g := mkF m pc Ls st) rfl hsz (Steps.refl _) (argsL := argsL) (rest := rest) (lenOf hpd hlen) hst (by show 2 * 0 + _ ≤ _; omega) hd (fun _ _ => ⟨rfl, eT, hc, hs⟩)
  dsimp only at X' hQ h1 h2 h3 stp
  subst h1 h2 h3
  exact Go.tr stp (k v T' L X' hQ)
/-- a call of an inherited method through a subclass's name, by its contract -/
theorem Go.up (X : Stand p l e R s m args below meth c T locs cells slots) (hx : p.tables.exec = Jvm.exec) (hZ : Z.Warmed39 s.vm) {own C owner : String} {index : Nat} {xm y : MethodName} (hown : s.vm.findClass own = some m.cls) (wl : (Cond.methodLink own index xm).before a0 Z = true) (wsm : (Cond.sameMethod xm.cls owner xm.name xm.desc).before a0 Z = true)
    (wd : (Cond.declares ⟨owner, xm.name, xm.desc⟩).before a0 Z = true) (wsel : (Cond.selects C xm y).before a0 Z = true) (wi : (Cond.instanceMethod y).before a0 Z = true) {bytes : ByteArray} {maxL : Nat} {ret : Option FieldType} (wc : (Cond.code y bytes maxL ret).before a0 Z = true) (wz : (Cond.initialized y.cls).before a0 Z = true) (hy : owner ≠ "java/lang/invoke/MethodHandle" ∧ owner ≠ "java/lang/invoke/VarHandle")
    {rm : Room} {Q : Option Value → Heap → List Loc → Prop} {b : Addr} {argsL rest : List Value} (P : Pays l y bytes maxL ret rm Z (.ref b :: argsL).toArray h Q) (eT : T.heap = h) (E : Exa Z h b C) {pc : Nat} {Ls : Array Slot} {st : List Value} (hst : st = argsL.reverse ++ .ref b :: rest) (hsz : Ls.size = c.maxLocals) {ps : List FieldType} {r : Option FieldType} (hpd : parseMethodDescriptor xm.desc = some ⟨ps, r⟩) (hlen : argsL.length = ps.length)
    (hd : decode c.code pc = .ok (.invokevirtual index, 3)) (W : Nat) (hW : (rest.map fun v => v.category).sum ≤ W) (hf : rm.frames + 1 ≤ R.frames) (hl : W + (maxL + 11) + rm.locals ≤ R.locals) (hc : cells + rm.cells ≤ R.cells) (hs : slots + rm.slots ≤ R.slots)
    (k : ∀ (v : Option Value) (T' : State) (L : List Loc), Stand p l e R s m args below meth c T' (locs ++ L) (cells + rm.cells) (slots + rm.slots) → Q v T'.heap L → Go p e below G (T'.setTop (mkF m (pc + 3) Ls (v.toList ++ rest)))) : Go p e below G (T.setTop (mkF m pc Ls st)) := by
  obtain ⟨cB, kB, hcB, -, hrecv⟩ := isOf hZ eT E
  obtain ⟨v, _, ⟨T', L', k', n'⟩, -, X', ⟨L, hQ, h1, h2, h3⟩, stp⟩ := X.virtualBackUp hx hown (mvT hZ wl) (mvT hZ wsm) (mvT hZ wd) hy (mvT hZ wsel) (mvT hZ wi) (backOf (W := W) (P []) hZ wc wz hf hl) hcB hrecv (g := mkF m pc Ls st) rfl hsz (Steps.refl _) (argsL := argsL) (rest := rest) (lenOf hpd hlen) hst (by show 2 * 0 + _ ≤ _; omega) hd (fun _ _ => ⟨rfl, eT, hc, hs⟩)
  dsimp only at X' hQ h1 h2 h3 stp
  subst h1 h2 h3
  exact Go.tr stp (k v T' L X' hQ)
/-- a call of a private instance method by invokevirtual, by its contract -/
theorem Go.priv (X : Stand p l e R s m args below meth c T locs cells slots) (hx : p.tables.exec = Jvm.exec) (hZ : Z.Warmed39 s.vm) {own C : String} {index : Nat} {y : MethodName} (hown : s.vm.findClass own = some m.cls) (wl : (Cond.methodLink own index y).before a0 Z = true) (wi : (Cond.instanceMethod y).before a0 Z = true)
    (wsel : (Cond.selects y.cls y y).before a0 Z = true) (wp : (Cond.privateMethod y).before a0 Z = true) {bytes : ByteArray} {maxL : Nat} {ret : Option FieldType} (wc : (Cond.code y bytes maxL ret).before a0 Z = true) (wz : (Cond.initialized y.cls).before a0 Z = true) (hy : y.cls ≠ "java/lang/invoke/MethodHandle" ∧ y.cls ≠ "java/lang/invoke/VarHandle")
    {rm : Room} {Q : Option Value → Heap → List Loc → Prop} {b : Addr} {argsL rest : List Value} (P : Pays l y bytes maxL ret rm Z (.ref b :: argsL).toArray h Q) (eT : T.heap = h) (E : Exa Z h b C) {pc : Nat} {Ls : Array Slot} {st : List Value} (hst : st = argsL.reverse ++ .ref b :: rest) (hsz : Ls.size = c.maxLocals) {ps : List FieldType} {r : Option FieldType} (hpd : parseMethodDescriptor y.desc = some ⟨ps, r⟩) (hlen : argsL.length = ps.length)
    (hd : decode c.code pc = .ok (.invokevirtual index, 3)) (W : Nat) (hW : (rest.map fun v => v.category).sum ≤ W) (hf : rm.frames + 1 ≤ R.frames) (hl : W + (maxL + 11) + rm.locals ≤ R.locals) (hc : cells + rm.cells ≤ R.cells) (hs : slots + rm.slots ≤ R.slots)
    (k : ∀ (v : Option Value) (T' : State) (L : List Loc), Stand p l e R s m args below meth c T' (locs ++ L) (cells + rm.cells) (slots + rm.slots) → Q v T'.heap L → Go p e below G (T'.setTop (mkF m (pc + 3) Ls (v.toList ++ rest)))) : Go p e below G (T.setTop (mkF m pc Ls st)) := by
  obtain ⟨cell, hcell, hobj⟩ := E.cell
  obtain ⟨v, _, ⟨T', L', k', n'⟩, -, X', ⟨L, hQ, h1, h2, h3⟩, stp⟩ := X.privateBack hx hown (mvT hZ wl) (mvT hZ wi) (mvT hZ wsel) (Cond.privateMethod_at (mvP (args := args) hZ wp)) (mvT hZ wc) hy (backOf (W := W) (P []) hZ wc wz hf hl) (g := mkF m pc Ls st) rfl hsz (Steps.refl _) (a := b) (by rw [eT]; exact hcell) hobj (argsL := argsL) (rest := rest) (lenOf hpd hlen) hst (by show 2 * 0 + _ ≤ _; omega) hd (fun _ _ => ⟨rfl, eT, hc, hs⟩)
  dsimp only at X' hQ h1 h2 h3 stp
  subst h1 h2 h3
  exact Go.tr stp (k v T' L X' hQ)
/-- a call of an interface's method, by the contract of the method that it goes to -/
theorem Go.face (X : Stand p l e R s m args below meth c T locs cells slots) (hx : p.tables.exec = Jvm.exec) (hZ : Z.Warmed39 s.vm) {own C : String} {index count : Nat} {xi y : MethodName} (hown : s.vm.findClass own = some m.cls) (wl : (Cond.methodLink own index xi).before a0 Z = true) (wd : (Cond.declares xi).before a0 Z = true)
    (wf : (Cond.interfaceMethod xi.cls xi.cls xi.name xi.desc).before args s = true) (wsel : (Cond.selects C xi y).before a0 Z = true) (wi : (Cond.instanceMethod y).before a0 Z = true) (wpub : (Cond.publicMethod y).before a0 Z = true) (wun : (Cond.unhidden C xi.name xi.desc).before a0 Z = true) (wca : (Cond.castable C xi.cls).before a0 Z = true)
    {bytes : ByteArray} {maxL : Nat} {ret : Option FieldType} (wc : (Cond.code y bytes maxL ret).before a0 Z = true) (wz : (Cond.initialized y.cls).before a0 Z = true) (hy : xi.cls ≠ "java/lang/invoke/MethodHandle" ∧ xi.cls ≠ "java/lang/invoke/VarHandle")
    {rm : Room} {Q : Option Value → Heap → List Loc → Prop} {b : Addr} {argsL rest : List Value} (P : Pays l y bytes maxL ret rm Z (.ref b :: argsL).toArray h Q) (eT : T.heap = h) (E : Exa Z h b C) {pc : Nat} {Ls : Array Slot} {st : List Value} (hst : st = argsL.reverse ++ .ref b :: rest) (hsz : Ls.size = c.maxLocals) {ps : List FieldType} {r : Option FieldType} (hpd : parseMethodDescriptor xi.desc = some ⟨ps, r⟩) (hlen : argsL.length = ps.length)
    (hd : decode c.code pc = .ok (.invokeinterface index count, 5)) (W : Nat) (hW : (rest.map fun v => v.category).sum ≤ W) (hf : rm.frames + 1 ≤ R.frames) (hl : W + (maxL + 11) + rm.locals ≤ R.locals) (hc : cells + rm.cells ≤ R.cells) (hs : slots + rm.slots ≤ R.slots)
    (k : ∀ (v : Option Value) (T' : State) (L : List Loc), Stand p l e R s m args below meth c T' (locs ++ L) (cells + rm.cells) (slots + rm.slots) → Q v T'.heap L → Go p e below G (T'.setTop (mkF m (pc + 5) Ls (v.toList ++ rest)))) : Go p e below G (T.setTop (mkF m pc Ls st)) := by
  obtain ⟨cB, kB, hcB, hkB, hrecv⟩ := isOf hZ eT E
  obtain ⟨v, _, ⟨T', L', k', n'⟩, -, X', ⟨L, hQ, h1, h2, h3⟩, stp⟩ := X.interfaceBack hx hown (mvT hZ wl) (mvT hZ wd) wf (mvT hZ wsel) (mvT hZ wi) (mvT hZ wpub) (mvT hZ wun) (mvT hZ wca) hy (backOf (W := W) (P []) hZ wc wz hf hl) hcB hkB hrecv (g := mkF m pc Ls st) rfl hsz (Steps.refl _) (argsL := argsL) (rest := rest) (lenOf hpd hlen) hst (by show 2 * 0 + _ ≤ _; omega) hd (fun _ _ => ⟨rfl, eT, hc, hs⟩)
  dsimp only at X' hQ h1 h2 h3 stp
  subst h1 h2 h3
  exact Go.tr stp (k v T' L X' hQ)
/-- a call of a constructor, by its contract -/
theorem Go.init (X : Stand p l e R s m args below meth c T locs cells slots) (hx : p.tables.exec = Jvm.exec) (hZ : Z.Warmed39 s.vm) {own : String} {index : Nat} {y : MethodName} (hy1 : y.name = "<init>") (hown : s.vm.findClass own = some m.cls) (wl : (Cond.methodLink own index y).before a0 Z = true)
    (wi : (Cond.instanceMethod y).before a0 Z = true) {bytes : ByteArray} {maxL : Nat} (wc : (Cond.code y bytes maxL none).before a0 Z = true) (wz : (Cond.initialized y.cls).before a0 Z = true) (hy : y.cls ≠ "java/lang/invoke/MethodHandle" ∧ y.cls ≠ "java/lang/invoke/VarHandle")
    {rm : Room} {Q : Option Value → Heap → List Loc → Prop} {b : Addr} {argsL rest : List Value} (P : Pays l y bytes maxL none rm Z (.ref b :: argsL).toArray h Q) (eT : T.heap = h) {pc : Nat} {Ls : Array Slot} {st : List Value} (hst : st = argsL.reverse ++ .ref b :: rest) (hsz : Ls.size = c.maxLocals) {ps : List FieldType} {r : Option FieldType} (hpd : parseMethodDescriptor y.desc = some ⟨ps, r⟩) (hlen : argsL.length = ps.length)
    (hd : decode c.code pc = .ok (.invokespecial index, 3)) (W : Nat) (hW : (rest.map fun v => v.category).sum ≤ W) (hf : rm.frames + 1 ≤ R.frames) (hl : W + (maxL + 11) + rm.locals ≤ R.locals) (hc : cells + rm.cells ≤ R.cells) (hs : slots + rm.slots ≤ R.slots)
    (k : ∀ (v : Option Value) (T' : State) (L : List Loc), Stand p l e R s m args below meth c T' (locs ++ L) (cells + rm.cells) (slots + rm.slots) → Q v T'.heap L → Go p e below G (T'.setTop (mkF m (pc + 3) Ls (v.toList ++ rest)))) : Go p e below G (T.setTop (mkF m pc Ls st)) := by
  obtain ⟨v, _, ⟨T', L', k', n'⟩, -, X', ⟨L, hQ, h1, h2, h3⟩, stp⟩ := X.specialBack hx hy1 hown (mvT hZ wl) (mvT hZ wi) (mvT hZ wc) hy (backOf (W := W) (P []) hZ wc wz hf hl) (g := mkF m pc Ls st) rfl hsz (Steps.refl _) (a := b) (argsL := argsL) (rest := rest) (lenOf hpd hlen) hst (by show 2 * 0 + _ ≤ _; omega) hd (fun _ _ => ⟨rfl, eT, hc, hs⟩)
  dsimp only at X' hQ h1 h2 h3 stp
  subst h1 h2 h3
  exact Go.tr stp (k v T' L X' hQ)
/-- a call of a static method, by its contract -/
theorem Go.stat (X : Stand p l e R s m args below meth c T locs cells slots) (hx : p.tables.exec = Jvm.exec) (hZ : Z.Warmed39 s.vm) {own : String} {index : Nat} {y : MethodName} (hown : s.vm.findClass own = some m.cls) (wl : (Cond.methodLink own index y).before a0 Z = true)
    (wst : (Cond.static y).before a0 Z = true) (wz : (Cond.initialized y.cls).before a0 Z = true) {bytes : ByteArray} {maxL : Nat} {ret : Option FieldType} (wc : (Cond.code y bytes maxL ret).before a0 Z = true) (hy : y.cls ≠ "java/lang/invoke/MethodHandle" ∧ y.cls ≠ "java/lang/invoke/VarHandle")
    {rm : Room} {Q : Option Value → Heap → List Loc → Prop} {argsL rest : List Value} (P : Pays l y bytes maxL ret rm Z argsL.toArray h Q) (eT : T.heap = h) {pc : Nat} {Ls : Array Slot} {st : List Value} (hst : st = argsL.reverse ++ rest) (hsz : Ls.size = c.maxLocals) {ps : List FieldType} {r : Option FieldType} (hpd : parseMethodDescriptor y.desc = some ⟨ps, r⟩) (hlen : argsL.length = ps.length)
    (hd : decode c.code pc = .ok (.invokestatic index, 3)) (W : Nat) (hW : (rest.map fun v => v.category).sum ≤ W) (hf : rm.frames + 1 ≤ R.frames) (hl : W + (maxL + 11) + rm.locals ≤ R.locals) (hc : cells + rm.cells ≤ R.cells) (hs : slots + rm.slots ≤ R.slots)
    (k : ∀ (v : Option Value) (T' : State) (L : List Loc), Stand p l e R s m args below meth c T' (locs ++ L) (cells + rm.cells) (slots + rm.slots) → Q v T'.heap L → Go p e below G (T'.setTop (mkF m (pc + 3) Ls (v.toList ++ rest)))) : Go p e below G (T.setTop (mkF m pc Ls st)) := by
  obtain ⟨mk, hnamed⟩ := Cond.named_of_code (mvT (args := args) hZ wc)
  obtain ⟨methM, cM, hmeth, hcode, -, -, -, -, -, hsig⟩ := Cond.code_spec hnamed (mvT (args := args) hZ wc)
  obtain ⟨v, _, ⟨T', L', k', n'⟩, -, X', ⟨L, hQ, h1, h2, h3⟩, stp⟩ := X.staticBack hx hown (mvT hZ wl) (mvT hZ wst) (mvT hZ wz) hnamed hmeth hsig hy (backOf (W := W) (P []) hZ wc wz hf hl) (g := mkF m pc Ls st) rfl hsz (Steps.refl _) (argsL := argsL) (rest := rest) (lenOf hpd hlen) hst (by show 2 * 0 + _ ≤ _; omega) hd (fun _ _ => ⟨rfl, eT, hc, hs⟩)
  dsimp only at X' hQ h1 h2 h3 stp
  subst h1 h2 h3
  exact Go.tr stp (k v T' L X' hQ)
theorem own_alen (X : Stand p l e R s m args below meth c T locs cells slots) (hx : p.tables.exec = Jvm.exec) (hZ : Z.Warmed39 s.vm) (eT : T.heap = h) {a : Addr} {cl : Cell} {ty : FieldType} (A : Arr Z h a cl ty) {z : Int32} (q : cl.slots.size.toInt32 = z) {pc : Nat} {Ls : Array Slot} {st rest : List Value} (hst : st = .ref a :: rest)
    (hd : decode c.code pc = .ok (.arraylength, 1)) (target : State) (k : Steps p.tables e below (T.setTop (mkF m (pc + 1) Ls (.int z :: rest))) target) : Steps p.tables e below (T.setTop (mkF m pc Ls st)) target :=
  X.arraylength hx (by rw [eT]; exact A.1) (State.isArrayOf_alike hZ.alike A.2.1) (g := mkF m pc Ls st) rfl hst hd target (by rw [q]; exact k)
def ObjAt (h : Heap) (x : Addr) : Prop := ∃ cell : Cell, h[x]? = some cell ∧ cell.vm.isStatics = false
theorem own_obj_exa {x : Addr} {C : String} (F : Exa Z h x C) : ObjAt h x := by
  obtain ⟨c1, _, h1, _, _, h4, _⟩ := F
  exact ⟨c1, h1, h4⟩
theorem own_obj_arv {x : Addr} {k : ClassId} {ty : FieldType} {n : Int32} {vs : List Value} {d : Value} (F : Arv Z h x k ty n vs d) : ObjAt h x := by
  obtain ⟨c1, A, _⟩ := F
  exact ⟨c1, A.1, A.plain⟩
theorem own_sta_keep {h' : Heap} {C n d : String} {v : Value} {ws : List Addr} (F : Sta Z h C n d v) (K : Keep h h' ws) (hws : ∀ x ∈ ws, ObjAt h x) : Sta Z h' C n d v := by
  obtain ⟨cf, i, k, f, st, cell, h1, h2, h3, h4, h5, h6, h7⟩ := F
  refine ⟨cf, i, k, f, st, cell, h1, h2, h3, h4, K.2.1 _ _ h5 fun q => ?_, h6, h7⟩
  obtain ⟨c1, g1, g2⟩ := hws _ q
  cases h5.symm.trans g1
  rw [h6] at g2
  cases g2
theorem own_entry {n : Nat} {Ls : Array Slot} (h : Jvm.Sym.laidSlots args.toList ++ List.replicate (n - (Jvm.Sym.laidSlots args.toList).length) .unset = Ls.toList) : entryFrame m args n = mkF m 0 Ls [] := by
  have q : argsToLocals args n = Ls := Array.toList_inj.mp (by rw [Jvm.Sym.argsToLocals_toList]; exact h)
  unfold entryFrame
  rw [q]
theorem own_eqI {first : State} {o : Option Outcome} {idx : List Nat} {a b : Term} {x y : Int32} (ha : a.eval args first o idx s = some (.int x)) (hb : b.eval args first o idx s = some (.int y)) : (Jvm.Cond.eq a b).value args first o s idx = some (decide (x = y)) := by simp [Cond.value, ha, hb]
theorem own_nar_ref {t : FieldType} {v : Value} (hv : v.isRef = true) : narrow t v = v := by
  rcases ref_cases hv with rfl | ⟨a, rfl⟩ <;> cases t <;> rfl
theorem own_fit_ref {t : FieldType} {v : Value} (hv : v.isRef = true) (ht : t.isReference = true := by rfl) : fits t v = true := by
  rcases ref_cases hv with rfl | ⟨a, rfl⟩ <;> cases t <;> first | rfl | cases ht
end OwnGo
theorem d1_0 : decode prog_54_method_5_code 0 = .ok (.lload_n 1, 1) := by decide +kernel
theorem d1_1 : decode prog_54_method_5_code 1 = .ok (.aload_n 0, 1) := by decide +kernel
theorem d1_2 : decode prog_54_method_5_code 2 = .ok (.getfield 32, 3) := by decide +kernel
theorem d1_5 : decode prog_54_method_5_code 5 = .ok (.i2l, 1) := by decide +kernel
theorem d1_6 : decode prog_54_method_5_code 6 = .ok (.lmul, 1) := by decide +kernel
theorem d1_7 : decode prog_54_method_5_code 7 = .ok (.lstore 5, 2) := by decide +kernel
theorem d1_9 : decode prog_54_method_5_code 9 = .ok (.dload_n 3, 1) := by decide +kernel
theorem d1_10 : decode prog_54_method_5_code 10 = .ok (.ldc2_w 50, 3) := by decide +kernel
theorem d1_13 : decode prog_54_method_5_code 13 = .ok (.dcmp .g, 1) := by decide +kernel
theorem d1_14 : decode prog_54_method_5_code 14 = .ok (.ifCond .ge 12, 3) := by decide +kernel
theorem d1_17 : decode prog_54_method_5_code 17 = .ok (.ldc2_w 57, 3) := by decide +kernel
theorem d1_20 : decode prog_54_method_5_code 20 = .ok (.lload 5, 2) := by decide +kernel
theorem d1_22 : decode prog_54_method_5_code 22 = .ok (.lmul, 1) := by decide +kernel
theorem d1_23 : decode prog_54_method_5_code 23 = .ok (.goto 5, 3) := by decide +kernel
theorem d1_26 : decode prog_54_method_5_code 26 = .ok (.lload 5, 2) := by decide +kernel
theorem d1_28 : decode prog_54_method_5_code 28 = .ok (.lreturn, 1) := by decide +kernel
theorem pn_com_example_forecache_forecache_LoadLevel : plainName "com/example/forecache/forecache/LoadLevel" = true := by first | (simp [plainName, overriddenIn]; done) | decide +kernel
theorem ef_rm1 (m : MethodId) (a : Addr) (rows : Int64) (q : UInt64) : entryFrame m #[(.ref a), (.long rows), (.double q)] 7 = mkF m 0 #[.val (.ref a), .val (.long rows), .second, .val (.double q), .second, .unset, .unset] [] := by first | exact own_entry rfl | (simp [entryFrame, mkF, argsToLocals, Value.category]; done) | rfl
set_option maxRecDepth 65536 in
set_option maxHeartbeats 40000000 in
theorem rm1 (l : Launch) (Z : State) (a0 : Array Value) (hw : ∀ d ∈ tables_1, d.before a0 Z = true) (a : Addr) (rows r : Int64) (q : UInt64) (k : Int32) (h0 : Heap) (n0 : Nat) (Z0 : n0 ≤ h0.size) (F : Fld Z h0 a "com/example/forecache/forecache/LoadLevel" "rowsPerRow" "I" (.int k)) (hr : r = if cmpValue (FP.dcmp q (4604480259023595110 : UInt64)) .g < 0 then (2 : Int64) * (rows * k.toInt64) else rows * k.toInt64) :
    Pays l (⟨"com/example/forecache/forecache/LoadLevel", "window", "(JD)J"⟩ : MethodName) prog_54_method_5_code 7 (some .long) ({ frames := 0, cells := 0, slots := 0, locals := 0 } : Room) Z #[(.ref a), (.long rows), (.double q)] h0 (fun v h L => v = some (.long r) ∧ Fr n0 L ∧ h = h0) := by
  refine Pays.of (plainFor_of_name pn_com_example_forecache_forecache_LoadLevel) ?_
  intro pP eE sS m below methM cC T hx hby hml hret hlk hZ hown hnm eT X
  replace hown : sS.vm.findClass "com/example/forecache/forecache/LoadLevel" = some m.cls := hown
  have N0 := Fr.nil n0
  refine Go.cast (ef_rm1 m a rows q) ?_
  refine Go.st (S' := T.setTop (mkF m 1 #[.val (.ref a), .val (.long rows), .second, .val (.double q), .second, .unset, .unset] [(.long rows)])) (fun t kt => XT.lloadN X.here hx rfl (hb hby d1_0) rfl kt) ?_
  refine Go.st (S' := T.setTop (mkF m 2 #[.val (.ref a), .val (.long rows), .second, .val (.double q), .second, .unset, .unset] [(.ref a), (.long rows)])) (fun t kt => XS.aloadN X.here hx rfl (hb hby d1_1) rfl rfl kt) ?_
  obtain ⟨T1, X1, e1, st1⟩ := getF X hx hZ hown (host := "") (Or.inl (hw _ (List.mem_of_getElem? (i := 10) rfl))) Via.refl eT F (g := (mkF m 2 #[.val (.ref a), .val (.long rows), .second, .val (.double q), .second, .unset, .unset] [(.ref a), (.long rows)])) rfl rfl (hb hby d1_2)
  refine Go.st (S' := T1.setTop (mkF m 5 #[.val (.ref a), .val (.long rows), .second, .val (.double q), .second, .unset, .unset] [(.int k), (.long rows)])) (fun t kt => st1 t kt) ?_
  refine Go.st (S' := T1.setTop (mkF m 6 #[.val (.ref a), .val (.long rows), .second, .val (.double q), .second, .unset, .unset] [(.long (k).toInt64), (.long rows)])) (fun t kt => XT.i2l X1.here hx rfl (hb hby d1_5) rfl kt) ?_
  refine Go.st (S' := T1.setTop (mkF m 7 #[.val (.ref a), .val (.long rows), .second, .val (.double q), .second, .unset, .unset] [(.long (rows * (k).toInt64))])) (fun t kt => XT.lmul X1.here hx rfl (hb hby d1_6) rfl kt) ?_
  refine Go.st (S' := T1.setTop (mkF m 9 #[.val (.ref a), .val (.long rows), .second, .val (.double q), .second, .val (.long (rows * (k).toInt64)), .second] [])) (fun t kt => XT.lstore X1.here hx rfl (hb hby d1_7) rfl rfl kt) ?_
  refine Go.st (S' := T1.setTop (mkF m 10 #[.val (.ref a), .val (.long rows), .second, .val (.double q), .second, .val (.long (rows * (k).toInt64)), .second] [(.double q)])) (fun t kt => XS.dloadN X1.here hx rfl (hb hby d1_9) rfl kt) ?_
  refine Go.st (S' := T1.setTop (mkF m 13 #[.val (.ref a), .val (.long rows), .second, .val (.double q), .second, .val (.long (rows * (k).toInt64)), .second] [(.double (4604480259023595110 : UInt64)), (.double q)])) (fun t kt => X1.ldc2DoubleC hx hown (mv hZ (hw _ (List.mem_of_getElem? (i := 12) rfl))) (g := (mkF m 10 #[.val (.ref a), .val (.long rows), .second, .val (.double q), .second, .val (.long (rows * (k).toInt64)), .second] [(.double q)])) rfl (hb hby d1_10) t kt) ?_
  refine Go.st (S' := T1.setTop (mkF m 14 #[.val (.ref a), .val (.long rows), .second, .val (.double q), .second, .val (.long (rows * (k).toInt64)), .second] [(.int (cmpValue (FP.dcmp q (4604480259023595110 : UInt64)) .g))])) (fun t kt => XS.dcmpS X1.here hx rfl (hb hby d1_13) rfl rfl kt) ?_
  by_cases hc14_2 : (cmpValue (FP.dcmp q (4604480259023595110 : UInt64)) .g) < 0
  · refine Go.st (S' := T1.setTop (mkF m 17 #[.val (.ref a), .val (.long rows), .second, .val (.double q), .second, .val (.long (rows * (k).toInt64)), .second] [])) (fun t kt => XS.ifNo X1.here hx rfl (hb hby d1_14) rfl (XT.i0_ge_f hc14_2) kt) ?_
    refine Go.st (S' := T1.setTop (mkF m 20 #[.val (.ref a), .val (.long rows), .second, .val (.double q), .second, .val (.long (rows * (k).toInt64)), .second] [(.long (2 : Int64))])) (fun t kt => X1.ldc2J hx hown (mv hZ (hw _ (List.mem_of_getElem? (i := 13) rfl))) rfl (hb hby d1_17) kt) ?_
    refine Go.st (S' := T1.setTop (mkF m 22 #[.val (.ref a), .val (.long rows), .second, .val (.double q), .second, .val (.long (rows * (k).toInt64)), .second] [(.long (rows * (k).toInt64)), (.long (2 : Int64))])) (fun t kt => XT.lload X1.here hx rfl (hb hby d1_20) rfl kt) ?_
    refine Go.st (S' := T1.setTop (mkF m 23 #[.val (.ref a), .val (.long rows), .second, .val (.double q), .second, .val (.long (rows * (k).toInt64)), .second] [(.long ((2 : Int64) * (rows * (k).toInt64)))])) (fun t kt => XT.lmul X1.here hx rfl (hb hby d1_22) rfl kt) ?_
    refine Go.st (S' := T1.setTop (mkF m 28 #[.val (.ref a), .val (.long rows), .second, .val (.double q), .second, .val (.long (rows * (k).toInt64)), .second] [(.long ((2 : Int64) * (rows * (k).toInt64)))])) (fun t kt => XS.goto X1.here hx rfl (pc0 := 23) (pc' := 28) rfl (hb hby d1_23) (by decide) (by decide) kt) ?_
    exact ret_l X1 hx hlk hret (hb hby d1_28) (by decide) (by decide) (⟨by rw [hr, if_pos hc14_2], N0, e1⟩)
  · refine Go.st (S' := T1.setTop (mkF m 26 #[.val (.ref a), .val (.long rows), .second, .val (.double q), .second, .val (.long (rows * (k).toInt64)), .second] [])) (fun t kt => XS.ifYes X1.here hx rfl (pc0 := 14) (pc' := 26) rfl (hb hby d1_14) rfl (XT.i0_ge_t hc14_2) (by decide) (by decide) kt) ?_
    refine Go.st (S' := T1.setTop (mkF m 28 #[.val (.ref a), .val (.long rows), .second, .val (.double q), .second, .val (.long (rows * (k).toInt64)), .second] [(.long (rows * (k).toInt64))])) (fun t kt => XT.lload X1.here hx rfl (hb hby d1_26) rfl kt) ?_
    exact ret_l X1 hx hlk hret (hb hby d1_28) (by decide) (by decide) (⟨by rw [hr, if_neg hc14_2], N0, e1⟩)
theorem own_b0 (x : Int64) : x <<< ((2 : Int32).toInt64 &&& 63) = x * (4 : Int32).toInt64 := shlmL (by decide)
theorem own_b1 (x : Int64) : x <<< ((1 : Int32).toInt64 &&& 63) = x * (2 : Int32).toInt64 := shlmL (by decide)
theorem own_b2 (x : Int64) : (0 : Int64) = x * (0 : Int32).toInt64 := by
  have : (0 : Int32).toInt64 = (0 : Int64) := by decide
  rw [this, Int64.mul_zero]
theorem own_d (x : Int64) : x <<< ((1 : Int32).toInt64 &&& 63) = (2 : Int64) * x := by
  rw [own_b1, Int64.mul_comm]
  have : (2 : Int32).toInt64 = (2 : Int64) := by decide
  rw [this]
theorem own_r : ∀ k : Fin 101, decide (cmpValue (FP.dcmp (FP.ddiv (FP.i2d (Int32.ofNat k.1)) (4636737291354636288 : UInt64)) (4604480259023595110 : UInt64)) .g < 0) = decide (Int32.ofNat k.1 < 70) := by decide +kernel
theorem own_ratio (x : Int32) : (cmpValue (FP.dcmp (FP.ddiv (FP.i2d ((x &&& (2147483647 : Int32)) % (101 : Int32))) (4636737291354636288 : UInt64)) (4604480259023595110 : UInt64)) .g < 0) ↔ ((x &&& (2147483647 : Int32)) % (101 : Int32)) < (70 : Int32) := by
  have h := c_and x (2147483647 : Int32) (by decide)
  generalize (x &&& (2147483647 : Int32)) = y at h
  have q := (c_irem y (101 : Int32) 101 rfl).1 h.1
  generalize y % (101 : Int32) = z at q
  have e : z = Int32.ofNat z.toInt.toNat := by
    apply Int32.toInt_inj.mp
    rw [Int32.toInt_ofNat_small (by omega)]
    omega
  have g := own_r ⟨z.toInt.toNat, by omega⟩
  simp only at g
  rw [← e] at g
  exact decide_eq_decide.mp g
theorem own_nn (x : Int32) : Jvm.Free.Fl.NoNaN64 (FP.ddiv (FP.i2d x) (4636737291354636288 : UInt64)) :=
  Jvm.Free.Fl.ddiv_out (Jvm.Free.Fl.i2d_fin x).noNaN (by unfold Jvm.Free.Fl.Fin64; decide) (by unfold Jvm.Free.Fl.Nz64; decide)
theorem pd__JD_J : parseMethodDescriptor "(JD)J" = some ⟨[.long, .double], some .long⟩ := by decide +kernel
theorem pn_com_example_forecache_forecache_LoadLevelWindowPinLaw : plainName "com/example/forecache/forecache/LoadLevelWindowPinLaw" = true := by first | (simp [plainName, overriddenIn]; done) | decide +kernel
theorem ef_rm0 (m : MethodId) (p0 : Int32) (p1 : Int64) (p2 : Int32) : entryFrame m #[(.int p0), (.long p1), (.int p2)] maxLocals = mkF m 0 #[.val (.int p0), .val (.long p1), .second, .val (.int p2), .unset, .unset, .unset, .unset, .unset, .unset, .unset, .unset, .unset] [] := by first | exact own_entry rfl | (simp [entryFrame, mkF, argsToLocals, Value.category, maxLocals]; done) | rfl
set_option maxRecDepth 65536 in
set_option maxHeartbeats 40000000 in
theorem rm0 (l : Launch) (Z : State) (a0 : Array Value) (hw : ∀ d ∈ tables_1, d.before a0 Z = true) (p0 : Int32) (p1 : Int64) (p2 : Int32) (h0 : Heap) (n0 : Nat) (Z0 : n0 ≤ h0.size) (a1 a2 a3 : Addr) (S_a1 : Sta Z h0 "com/example/forecache/forecache/LoadLevel" "L1" "Lcom/example/forecache/forecache/LoadLevel;" (.ref a1)) (E_a1 : Exa Z h0 a1 "com/example/forecache/forecache/LoadLevel") (F_a1 : Fld Z h0 a1 "com/example/forecache/forecache/LoadLevel" "rowsPerRow" "I" (.int (4 : Int32))) (S_a2 : Sta Z h0 "com/example/forecache/forecache/LoadLevel" "L2" "Lcom/example/forecache/forecache/LoadLevel;" (.ref a2)) (E_a2 : Exa Z h0 a2 "com/example/forecache/forecache/LoadLevel") (F_a2 : Fld Z h0 a2 "com/example/forecache/forecache/LoadLevel" "rowsPerRow" "I" (.int (2 : Int32))) (S_a3 : Sta Z h0 "com/example/forecache/forecache/LoadLevel" "L3" "Lcom/example/forecache/forecache/LoadLevel;" (.ref a3)) (E_a3 : Exa Z h0 a3 "com/example/forecache/forecache/LoadLevel") (F_a3 : Fld Z h0 a3 "com/example/forecache/forecache/LoadLevel" "rowsPerRow" "I" (.int (0 : Int32))) :
    Pays l x code maxLocals ret room_1 Z #[(.int p0), (.long p1), (.int p2)] h0 (fun v h L => v = some (.int 1) ∧ Fr n0 L) := by
  refine Pays.of (plainFor_of_name pn_com_example_forecache_forecache_LoadLevelWindowPinLaw) ?_
  intro pP eE sS m below methM cC T hx hby hml hret hlk hZ hown hnm eT X
  replace hown : sS.vm.findClass "com/example/forecache/forecache/LoadLevelWindowPinLaw" = some m.cls := hown
  have N0 := Fr.nil n0
  refine Go.cast (ef_rm0 m p0 p1 p2) ?_
  refine Go.st (S' := T.setTop (mkF m 1 #[.val (.int p0), .val (.long p1), .second, .val (.int p2), .unset, .unset, .unset, .unset, .unset, .unset, .unset, .unset, .unset] [(.int p0)])) (fun t kt => XS.iloadN X.here hx rfl (hb hby at_0) rfl kt) ?_
  refine Go.st (S' := T.setTop (mkF m 3 #[.val (.int p0), .val (.long p1), .second, .val (.int p2), .unset, .unset, .unset, .unset, .unset, .unset, .unset, .unset, .unset] [(.int (2147483647 : Int32)), (.int p0)])) (fun t kt => X.ldcI hx hown (mv hZ (hw _ (List.mem_of_getElem? (i := 0) rfl))) rfl (hb hby at_1) kt) ?_
  refine Go.st (S' := T.setTop (mkF m 4 #[.val (.int p0), .val (.long p1), .second, .val (.int p2), .unset, .unset, .unset, .unset, .unset, .unset, .unset, .unset, .unset] [(.int (p0 &&& (2147483647 : Int32)))])) (fun t kt => XS.iand X.here hx rfl (hb hby at_3) rfl kt) ?_
  refine Go.st (S' := T.setTop (mkF m 5 #[.val (.int p0), .val (.long p1), .second, .val (.int p2), .unset, .unset, .unset, .unset, .unset, .unset, .unset, .unset, .unset] [(.int (3 : Int32)), (.int (p0 &&& (2147483647 : Int32)))])) (fun t kt => XS.iconst X.here hx rfl (hb hby at_4) kt) ?_
  refine Go.st (S' := T.setTop (mkF m 6 #[.val (.int p0), .val (.long p1), .second, .val (.int p2), .unset, .unset, .unset, .unset, .unset, .unset, .unset, .unset, .unset] [(.int ((p0 &&& (2147483647 : Int32)) % (3 : Int32)))])) (fun t kt => iremM X hx rfl (hb hby at_5) rfl (by decide) kt) ?_
  refine Go.st (S' := T.setTop (mkF m 8 #[.val (.int p0), .val (.long p1), .second, .val (.int p2), .val (.int ((p0 &&& (2147483647 : Int32)) % (3 : Int32))), .unset, .unset, .unset, .unset, .unset, .unset, .unset, .unset] [])) (fun t kt => XS.istore X.here hx rfl (hb hby at_6) rfl rfl kt) ?_
  refine Go.st (S' := T.setTop (mkF m 9 #[.val (.int p0), .val (.long p1), .second, .val (.int p2), .val (.int ((p0 &&& (2147483647 : Int32)) % (3 : Int32))), .unset, .unset, .unset, .unset, .unset, .unset, .unset, .unset] [(.int p2)])) (fun t kt => XS.iloadN X.here hx rfl (hb hby at_8) rfl kt) ?_
  refine Go.st (S' := T.setTop (mkF m 11 #[.val (.int p0), .val (.long p1), .second, .val (.int p2), .val (.int ((p0 &&& (2147483647 : Int32)) % (3 : Int32))), .unset, .unset, .unset, .unset, .unset, .unset, .unset, .unset] [(.int (2147483647 : Int32)), (.int p2)])) (fun t kt => X.ldcI hx hown (mv hZ (hw _ (List.mem_of_getElem? (i := 0) rfl))) rfl (hb hby at_9) kt) ?_
  refine Go.st (S' := T.setTop (mkF m 12 #[.val (.int p0), .val (.long p1), .second, .val (.int p2), .val (.int ((p0 &&& (2147483647 : Int32)) % (3 : Int32))), .unset, .unset, .unset, .unset, .unset, .unset, .unset, .unset] [(.int (p2 &&& (2147483647 : Int32)))])) (fun t kt => XS.iand X.here hx rfl (hb hby at_11) rfl kt) ?_
  refine Go.st (S' := T.setTop (mkF m 14 #[.val (.int p0), .val (.long p1), .second, .val (.int p2), .val (.int ((p0 &&& (2147483647 : Int32)) % (3 : Int32))), .unset, .unset, .unset, .unset, .unset, .unset, .unset, .unset] [(.int (101 : Int32)), (.int (p2 &&& (2147483647 : Int32)))])) (fun t kt => XT.bipushV X.here hx rfl (101 : Int32) (hb hby at_12) (by decide) kt) ?_
  refine Go.st (S' := T.setTop (mkF m 15 #[.val (.int p0), .val (.long p1), .second, .val (.int p2), .val (.int ((p0 &&& (2147483647 : Int32)) % (3 : Int32))), .unset, .unset, .unset, .unset, .unset, .unset, .unset, .unset] [(.int ((p2 &&& (2147483647 : Int32)) % (101 : Int32)))])) (fun t kt => iremM X hx rfl (hb hby at_14) rfl (by decide) kt) ?_
  refine Go.st (S' := T.setTop (mkF m 17 #[.val (.int p0), .val (.long p1), .second, .val (.int p2), .val (.int ((p0 &&& (2147483647 : Int32)) % (3 : Int32))), .val (.int ((p2 &&& (2147483647 : Int32)) % (101 : Int32))), .unset, .unset, .unset, .unset, .unset, .unset, .unset] [])) (fun t kt => XS.istore X.here hx rfl (hb hby at_15) rfl rfl kt) ?_
  refine Go.st (S' := T.setTop (mkF m 19 #[.val (.int p0), .val (.long p1), .second, .val (.int p2), .val (.int ((p0 &&& (2147483647 : Int32)) % (3 : Int32))), .val (.int ((p2 &&& (2147483647 : Int32)) % (101 : Int32))), .unset, .unset, .unset, .unset, .unset, .unset, .unset] [(.int ((p0 &&& (2147483647 : Int32)) % (3 : Int32)))])) (fun t kt => XS.iload X.here hx rfl (hb hby at_17) rfl kt) ?_
  by_cases hc19_1 : ((p0 &&& (2147483647 : Int32)) % (3 : Int32)) = 0
  · refine Go.st (S' := T.setTop (mkF m 22 #[.val (.int p0), .val (.long p1), .second, .val (.int p2), .val (.int ((p0 &&& (2147483647 : Int32)) % (3 : Int32))), .val (.int ((p2 &&& (2147483647 : Int32)) % (101 : Int32))), .unset, .unset, .unset, .unset, .unset, .unset, .unset] [])) (fun t kt => XS.ifNo X.here hx rfl (hb hby at_19) rfl (XT.i0_ne_f hc19_1) kt) ?_
    obtain ⟨T2, X2, e2, st2⟩ := getS X hx hZ (host := "") hown (hw _ (List.mem_of_getElem? (i := 1) rfl)) Via.refl eT S_a1 (g := (mkF m 22 #[.val (.int p0), .val (.long p1), .second, .val (.int p2), .val (.int ((p0 &&& (2147483647 : Int32)) % (3 : Int32))), .val (.int ((p2 &&& (2147483647 : Int32)) % (101 : Int32))), .unset, .unset, .unset, .unset, .unset, .unset, .unset] [])) rfl (hb hby at_22)
    refine Go.st (S' := T2.setTop (mkF m 25 #[.val (.int p0), .val (.long p1), .second, .val (.int p2), .val (.int ((p0 &&& (2147483647 : Int32)) % (3 : Int32))), .val (.int ((p2 &&& (2147483647 : Int32)) % (101 : Int32))), .unset, .unset, .unset, .unset, .unset, .unset, .unset] [(.ref a1)])) (fun t kt => st2 t kt) ?_
    refine Go.st (S' := T2.setTop (mkF m 27 #[.val (.int p0), .val (.long p1), .second, .val (.int p2), .val (.int ((p0 &&& (2147483647 : Int32)) % (3 : Int32))), .val (.int ((p2 &&& (2147483647 : Int32)) % (101 : Int32))), .val (.ref a1), .unset, .unset, .unset, .unset, .unset, .unset] [])) (fun t kt => XS.astore X2.here hx rfl (hb hby at_25) rfl rfl rfl kt) ?_
    refine Go.st (S' := T2.setTop (mkF m 49 #[.val (.int p0), .val (.long p1), .second, .val (.int p2), .val (.int ((p0 &&& (2147483647 : Int32)) % (3 : Int32))), .val (.int ((p2 &&& (2147483647 : Int32)) % (101 : Int32))), .val (.ref a1), .unset, .unset, .unset, .unset, .unset, .unset] [])) (fun t kt => XS.goto X2.here hx rfl (pc0 := 27) (pc' := 49) rfl (hb hby at_27) (by decide) (by decide) kt) ?_
    refine Go.st (S' := T2.setTop (mkF m 51 #[.val (.int p0), .val (.long p1), .second, .val (.int p2), .val (.int ((p0 &&& (2147483647 : Int32)) % (3 : Int32))), .val (.int ((p2 &&& (2147483647 : Int32)) % (101 : Int32))), .val (.ref a1), .unset, .unset, .unset, .unset, .unset, .unset] [(.int ((p2 &&& (2147483647 : Int32)) % (101 : Int32)))])) (fun t kt => XS.iload X2.here hx rfl (hb hby at_49) rfl kt) ?_
    refine Go.st (S' := T2.setTop (mkF m 52 #[.val (.int p0), .val (.long p1), .second, .val (.int p2), .val (.int ((p0 &&& (2147483647 : Int32)) % (3 : Int32))), .val (.int ((p2 &&& (2147483647 : Int32)) % (101 : Int32))), .val (.ref a1), .unset, .unset, .unset, .unset, .unset, .unset] [(.double (FP.i2d ((p2 &&& (2147483647 : Int32)) % (101 : Int32))))])) (fun t kt => XS.i2dS X2.here hx rfl (hb hby at_51) rfl rfl kt) ?_
    refine Go.st (S' := T2.setTop (mkF m 55 #[.val (.int p0), .val (.long p1), .second, .val (.int p2), .val (.int ((p0 &&& (2147483647 : Int32)) % (3 : Int32))), .val (.int ((p2 &&& (2147483647 : Int32)) % (101 : Int32))), .val (.ref a1), .unset, .unset, .unset, .unset, .unset, .unset] [(.double (4636737291354636288 : UInt64)), (.double (FP.i2d ((p2 &&& (2147483647 : Int32)) % (101 : Int32))))])) (fun t kt => X2.ldc2DoubleC hx hown (mv hZ (hw _ (List.mem_of_getElem? (i := 4) rfl))) (g := (mkF m 52 #[.val (.int p0), .val (.long p1), .second, .val (.int p2), .val (.int ((p0 &&& (2147483647 : Int32)) % (3 : Int32))), .val (.int ((p2 &&& (2147483647 : Int32)) % (101 : Int32))), .val (.ref a1), .unset, .unset, .unset, .unset, .unset, .unset] [(.double (FP.i2d ((p2 &&& (2147483647 : Int32)) % (101 : Int32))))])) rfl (hb hby at_52) t kt) ?_
    refine Go.st (S' := T2.setTop (mkF m 56 #[.val (.int p0), .val (.long p1), .second, .val (.int p2), .val (.int ((p0 &&& (2147483647 : Int32)) % (3 : Int32))), .val (.int ((p2 &&& (2147483647 : Int32)) % (101 : Int32))), .val (.ref a1), .unset, .unset, .unset, .unset, .unset, .unset] [(.double (FP.ddiv (FP.i2d ((p2 &&& (2147483647 : Int32)) % (101 : Int32))) (4636737291354636288 : UInt64)))])) (fun t kt => XS.ddivS X2.here hx rfl (hb hby at_55) rfl (own_nn _) rfl kt) ?_
    refine Go.st (S' := T2.setTop (mkF m 58 #[.val (.int p0), .val (.long p1), .second, .val (.int p2), .val (.int ((p0 &&& (2147483647 : Int32)) % (3 : Int32))), .val (.int ((p2 &&& (2147483647 : Int32)) % (101 : Int32))), .val (.ref a1), .val (.double (FP.ddiv (FP.i2d ((p2 &&& (2147483647 : Int32)) % (101 : Int32))) (4636737291354636288 : UInt64))), .second, .unset, .unset, .unset, .unset] [])) (fun t kt => XS.dstore X2.here hx rfl (hb hby at_56) rfl rfl kt) ?_
    refine Go.st (S' := T2.setTop (mkF m 60 #[.val (.int p0), .val (.long p1), .second, .val (.int p2), .val (.int ((p0 &&& (2147483647 : Int32)) % (3 : Int32))), .val (.int ((p2 &&& (2147483647 : Int32)) % (101 : Int32))), .val (.ref a1), .val (.double (FP.ddiv (FP.i2d ((p2 &&& (2147483647 : Int32)) % (101 : Int32))) (4636737291354636288 : UInt64))), .second, .unset, .unset, .unset, .unset] [(.int ((p0 &&& (2147483647 : Int32)) % (3 : Int32)))])) (fun t kt => XS.iload X2.here hx rfl (hb hby at_58) rfl kt) ?_
    refine Go.st (S' := T2.setTop (mkF m 63 #[.val (.int p0), .val (.long p1), .second, .val (.int p2), .val (.int ((p0 &&& (2147483647 : Int32)) % (3 : Int32))), .val (.int ((p2 &&& (2147483647 : Int32)) % (101 : Int32))), .val (.ref a1), .val (.double (FP.ddiv (FP.i2d ((p2 &&& (2147483647 : Int32)) % (101 : Int32))) (4636737291354636288 : UInt64))), .second, .unset, .unset, .unset, .unset] [])) (fun t kt => XS.ifNo X2.here hx rfl (hb hby at_60) rfl (XT.i0_ne_f hc19_1) kt) ?_
    refine Go.st (S' := T2.setTop (mkF m 64 #[.val (.int p0), .val (.long p1), .second, .val (.int p2), .val (.int ((p0 &&& (2147483647 : Int32)) % (3 : Int32))), .val (.int ((p2 &&& (2147483647 : Int32)) % (101 : Int32))), .val (.ref a1), .val (.double (FP.ddiv (FP.i2d ((p2 &&& (2147483647 : Int32)) % (101 : Int32))) (4636737291354636288 : UInt64))), .second, .unset, .unset, .unset, .unset] [(.long p1)])) (fun t kt => XT.lloadN X2.here hx rfl (hb hby at_63) rfl kt) ?_
    refine Go.st (S' := T2.setTop (mkF m 65 #[.val (.int p0), .val (.long p1), .second, .val (.int p2), .val (.int ((p0 &&& (2147483647 : Int32)) % (3 : Int32))), .val (.int ((p2 &&& (2147483647 : Int32)) % (101 : Int32))), .val (.ref a1), .val (.double (FP.ddiv (FP.i2d ((p2 &&& (2147483647 : Int32)) % (101 : Int32))) (4636737291354636288 : UInt64))), .second, .unset, .unset, .unset, .unset] [(.int (2 : Int32)), (.long p1)])) (fun t kt => XS.iconst X2.here hx rfl (hb hby at_64) kt) ?_
    refine Go.st (S' := T2.setTop (mkF m 66 #[.val (.int p0), .val (.long p1), .second, .val (.int p2), .val (.int ((p0 &&& (2147483647 : Int32)) % (3 : Int32))), .val (.int ((p2 &&& (2147483647 : Int32)) % (101 : Int32))), .val (.ref a1), .val (.double (FP.ddiv (FP.i2d ((p2 &&& (2147483647 : Int32)) % (101 : Int32))) (4636737291354636288 : UInt64))), .second, .unset, .unset, .unset, .unset] [(.long (p1 <<< ((2 : Int32).toInt64 &&& 63)))])) (fun t kt => XT.lshl X2.here hx rfl (hb hby at_65) rfl kt) ?_
    refine Go.st (S' := T2.setTop (mkF m 68 #[.val (.int p0), .val (.long p1), .second, .val (.int p2), .val (.int ((p0 &&& (2147483647 : Int32)) % (3 : Int32))), .val (.int ((p2 &&& (2147483647 : Int32)) % (101 : Int32))), .val (.ref a1), .val (.double (FP.ddiv (FP.i2d ((p2 &&& (2147483647 : Int32)) % (101 : Int32))) (4636737291354636288 : UInt64))), .second, .val (.long (p1 <<< ((2 : Int32).toInt64 &&& 63))), .second, .unset, .unset] [])) (fun t kt => XT.lstore X2.here hx rfl (hb hby at_66) rfl rfl kt) ?_
    refine Go.st (S' := T2.setTop (mkF m 88 #[.val (.int p0), .val (.long p1), .second, .val (.int p2), .val (.int ((p0 &&& (2147483647 : Int32)) % (3 : Int32))), .val (.int ((p2 &&& (2147483647 : Int32)) % (101 : Int32))), .val (.ref a1), .val (.double (FP.ddiv (FP.i2d ((p2 &&& (2147483647 : Int32)) % (101 : Int32))) (4636737291354636288 : UInt64))), .second, .val (.long (p1 <<< ((2 : Int32).toInt64 &&& 63))), .second, .unset, .unset] [])) (fun t kt => XS.goto X2.here hx rfl (pc0 := 68) (pc' := 88) rfl (hb hby at_68) (by decide) (by decide) kt) ?_
    refine Go.st (S' := T2.setTop (mkF m 90 #[.val (.int p0), .val (.long p1), .second, .val (.int p2), .val (.int ((p0 &&& (2147483647 : Int32)) % (3 : Int32))), .val (.int ((p2 &&& (2147483647 : Int32)) % (101 : Int32))), .val (.ref a1), .val (.double (FP.ddiv (FP.i2d ((p2 &&& (2147483647 : Int32)) % (101 : Int32))) (4636737291354636288 : UInt64))), .second, .val (.long (p1 <<< ((2 : Int32).toInt64 &&& 63))), .second, .unset, .unset] [(.int ((p2 &&& (2147483647 : Int32)) % (101 : Int32)))])) (fun t kt => XS.iload X2.here hx rfl (hb hby at_88) rfl kt) ?_
    refine Go.st (S' := T2.setTop (mkF m 92 #[.val (.int p0), .val (.long p1), .second, .val (.int p2), .val (.int ((p0 &&& (2147483647 : Int32)) % (3 : Int32))), .val (.int ((p2 &&& (2147483647 : Int32)) % (101 : Int32))), .val (.ref a1), .val (.double (FP.ddiv (FP.i2d ((p2 &&& (2147483647 : Int32)) % (101 : Int32))) (4636737291354636288 : UInt64))), .second, .val (.long (p1 <<< ((2 : Int32).toInt64 &&& 63))), .second, .unset, .unset] [(.int (70 : Int32)), (.int ((p2 &&& (2147483647 : Int32)) % (101 : Int32)))])) (fun t kt => XT.bipushV X2.here hx rfl (70 : Int32) (hb hby at_90) (by decide) kt) ?_
    by_cases hc92_3 : ((p2 &&& (2147483647 : Int32)) % (101 : Int32)) < (70 : Int32)
    · refine Go.st (S' := T2.setTop (mkF m 95 #[.val (.int p0), .val (.long p1), .second, .val (.int p2), .val (.int ((p0 &&& (2147483647 : Int32)) % (3 : Int32))), .val (.int ((p2 &&& (2147483647 : Int32)) % (101 : Int32))), .val (.ref a1), .val (.double (FP.ddiv (FP.i2d ((p2 &&& (2147483647 : Int32)) % (101 : Int32))) (4636737291354636288 : UInt64))), .second, .val (.long (p1 <<< ((2 : Int32).toInt64 &&& 63))), .second, .unset, .unset] [])) (fun t kt => XS.icmpNo X2.here hx rfl (hb hby at_92) rfl (XT.ii_ge_f hc92_3) kt) ?_
      refine Go.st (S' := T2.setTop (mkF m 97 #[.val (.int p0), .val (.long p1), .second, .val (.int p2), .val (.int ((p0 &&& (2147483647 : Int32)) % (3 : Int32))), .val (.int ((p2 &&& (2147483647 : Int32)) % (101 : Int32))), .val (.ref a1), .val (.double (FP.ddiv (FP.i2d ((p2 &&& (2147483647 : Int32)) % (101 : Int32))) (4636737291354636288 : UInt64))), .second, .val (.long (p1 <<< ((2 : Int32).toInt64 &&& 63))), .second, .unset, .unset] [(.long (p1 <<< ((2 : Int32).toInt64 &&& 63)))])) (fun t kt => XT.lload X2.here hx rfl (hb hby at_95) rfl kt) ?_
      refine Go.st (S' := T2.setTop (mkF m 98 #[.val (.int p0), .val (.long p1), .second, .val (.int p2), .val (.int ((p0 &&& (2147483647 : Int32)) % (3 : Int32))), .val (.int ((p2 &&& (2147483647 : Int32)) % (101 : Int32))), .val (.ref a1), .val (.double (FP.ddiv (FP.i2d ((p2 &&& (2147483647 : Int32)) % (101 : Int32))) (4636737291354636288 : UInt64))), .second, .val (.long (p1 <<< ((2 : Int32).toInt64 &&& 63))), .second, .unset, .unset] [(.int (1 : Int32)), (.long (p1 <<< ((2 : Int32).toInt64 &&& 63)))])) (fun t kt => XS.iconst X2.here hx rfl (hb hby at_97) kt) ?_
      refine Go.st (S' := T2.setTop (mkF m 99 #[.val (.int p0), .val (.long p1), .second, .val (.int p2), .val (.int ((p0 &&& (2147483647 : Int32)) % (3 : Int32))), .val (.int ((p2 &&& (2147483647 : Int32)) % (101 : Int32))), .val (.ref a1), .val (.double (FP.ddiv (FP.i2d ((p2 &&& (2147483647 : Int32)) % (101 : Int32))) (4636737291354636288 : UInt64))), .second, .val (.long (p1 <<< ((2 : Int32).toInt64 &&& 63))), .second, .unset, .unset] [(.long ((p1 <<< ((2 : Int32).toInt64 &&& 63)) <<< ((1 : Int32).toInt64 &&& 63)))])) (fun t kt => XT.lshl X2.here hx rfl (hb hby at_98) rfl kt) ?_
      refine Go.st (S' := T2.setTop (mkF m 101 #[.val (.int p0), .val (.long p1), .second, .val (.int p2), .val (.int ((p0 &&& (2147483647 : Int32)) % (3 : Int32))), .val (.int ((p2 &&& (2147483647 : Int32)) % (101 : Int32))), .val (.ref a1), .val (.double (FP.ddiv (FP.i2d ((p2 &&& (2147483647 : Int32)) % (101 : Int32))) (4636737291354636288 : UInt64))), .second, .val (.long (p1 <<< ((2 : Int32).toInt64 &&& 63))), .second, .val (.long ((p1 <<< ((2 : Int32).toInt64 &&& 63)) <<< ((1 : Int32).toInt64 &&& 63))), .second] [])) (fun t kt => XT.lstore X2.here hx rfl (hb hby at_99) rfl rfl kt) ?_
      refine Go.st (S' := T2.setTop (mkF m 108 #[.val (.int p0), .val (.long p1), .second, .val (.int p2), .val (.int ((p0 &&& (2147483647 : Int32)) % (3 : Int32))), .val (.int ((p2 &&& (2147483647 : Int32)) % (101 : Int32))), .val (.ref a1), .val (.double (FP.ddiv (FP.i2d ((p2 &&& (2147483647 : Int32)) % (101 : Int32))) (4636737291354636288 : UInt64))), .second, .val (.long (p1 <<< ((2 : Int32).toInt64 &&& 63))), .second, .val (.long ((p1 <<< ((2 : Int32).toInt64 &&& 63)) <<< ((1 : Int32).toInt64 &&& 63))), .second] [])) (fun t kt => XS.goto X2.here hx rfl (pc0 := 101) (pc' := 108) rfl (hb hby at_101) (by decide) (by decide) kt) ?_
      refine Go.st (S' := T2.setTop (mkF m 110 #[.val (.int p0), .val (.long p1), .second, .val (.int p2), .val (.int ((p0 &&& (2147483647 : Int32)) % (3 : Int32))), .val (.int ((p2 &&& (2147483647 : Int32)) % (101 : Int32))), .val (.ref a1), .val (.double (FP.ddiv (FP.i2d ((p2 &&& (2147483647 : Int32)) % (101 : Int32))) (4636737291354636288 : UInt64))), .second, .val (.long (p1 <<< ((2 : Int32).toInt64 &&& 63))), .second, .val (.long ((p1 <<< ((2 : Int32).toInt64 &&& 63)) <<< ((1 : Int32).toInt64 &&& 63))), .second] [(.ref a1)])) (fun t kt => XS.aload X2.here hx rfl (hb hby at_108) rfl rfl kt) ?_
      refine Go.st (S' := T2.setTop (mkF m 111 #[.val (.int p0), .val (.long p1), .second, .val (.int p2), .val (.int ((p0 &&& (2147483647 : Int32)) % (3 : Int32))), .val (.int ((p2 &&& (2147483647 : Int32)) % (101 : Int32))), .val (.ref a1), .val (.double (FP.ddiv (FP.i2d ((p2 &&& (2147483647 : Int32)) % (101 : Int32))) (4636737291354636288 : UInt64))), .second, .val (.long (p1 <<< ((2 : Int32).toInt64 &&& 63))), .second, .val (.long ((p1 <<< ((2 : Int32).toInt64 &&& 63)) <<< ((1 : Int32).toInt64 &&& 63))), .second] [(.long p1), (.ref a1)])) (fun t kt => XT.lloadN X2.here hx rfl (hb hby at_110) rfl kt) ?_
      refine Go.st (S' := T2.setTop (mkF m 113 #[.val (.int p0), .val (.long p1), .second, .val (.int p2), .val (.int ((p0 &&& (2147483647 : Int32)) % (3 : Int32))), .val (.int ((p2 &&& (2147483647 : Int32)) % (101 : Int32))), .val (.ref a1), .val (.double (FP.ddiv (FP.i2d ((p2 &&& (2147483647 : Int32)) % (101 : Int32))) (4636737291354636288 : UInt64))), .second, .val (.long (p1 <<< ((2 : Int32).toInt64 &&& 63))), .second, .val (.long ((p1 <<< ((2 : Int32).toInt64 &&& 63)) <<< ((1 : Int32).toInt64 &&& 63))), .second] [(.double (FP.ddiv (FP.i2d ((p2 &&& (2147483647 : Int32)) % (101 : Int32))) (4636737291354636288 : UInt64))), (.long p1), (.ref a1)])) (fun t kt => XS.dload X2.here hx rfl (hb hby at_111) rfl kt) ?_
      refine Go.virt X2 hx hZ hown (hw _ (List.mem_of_getElem? (i := 5) rfl)) (hw _ (List.mem_of_getElem? (i := 6) rfl)) (notFace_of_selects (mvT (args := #[]) hZ (hw _ (List.mem_of_getElem? (i := 8) rfl)))) (hw _ (List.mem_of_getElem? (i := 8) rfl)) (hw _ (List.mem_of_getElem? (i := 7) rfl)) (hw _ (List.mem_of_getElem? (i := 9) rfl)) (hw _ (List.mem_of_getElem? (i := 2) rfl)) (by decide) (b := a1) (argsL := [(.long p1), (.double (FP.ddiv (FP.i2d ((p2 &&& (2147483647 : Int32)) % (101 : Int32))) (4636737291354636288 : UInt64)))]) (rest := []) (rm1 l Z a0 hw a1 p1 ((p1 <<< ((2 : Int32).toInt64 &&& 63)) <<< ((1 : Int32).toInt64 &&& 63)) (FP.ddiv (FP.i2d ((p2 &&& (2147483647 : Int32)) % (101 : Int32))) (4636737291354636288 : UInt64)) (4 : Int32) h0 n0 Z0 F_a1 (by rw [if_pos ((own_ratio p2).mpr hc92_3), own_d, own_b0 p1])) e2 E_a1 rfl (by rw [hml]; rfl) pd__JD_J rfl (hb hby at_113) 0 (Nat.le_refl _) (by decide) (by decide) (by decide) (by decide) ?_
      intro v4 T4 L4 X4 hQ4
      obtain ⟨hv4, N4', e4⟩ := hQ4
      subst hv4
      have N4 := Fr.app N0 N4'
      show Go pP eE below _ (T4.setTop (mkF m 116 #[.val (.int p0), .val (.long p1), .second, .val (.int p2), .val (.int ((p0 &&& (2147483647 : Int32)) % (3 : Int32))), .val (.int ((p2 &&& (2147483647 : Int32)) % (101 : Int32))), .val (.ref a1), .val (.double (FP.ddiv (FP.i2d ((p2 &&& (2147483647 : Int32)) % (101 : Int32))) (4636737291354636288 : UInt64))), .second, .val (.long (p1 <<< ((2 : Int32).toInt64 &&& 63))), .second, .val (.long ((p1 <<< ((2 : Int32).toInt64 &&& 63)) <<< ((1 : Int32).toInt64 &&& 63))), .second] [(.long ((p1 <<< ((2 : Int32).toInt64 &&& 63)) <<< ((1 : Int32).toInt64 &&& 63)))]))
      refine Go.st (S' := T4.setTop (mkF m 118 #[.val (.int p0), .val (.long p1), .second, .val (.int p2), .val (.int ((p0 &&& (2147483647 : Int32)) % (3 : Int32))), .val (.int ((p2 &&& (2147483647 : Int32)) % (101 : Int32))), .val (.ref a1), .val (.double (FP.ddiv (FP.i2d ((p2 &&& (2147483647 : Int32)) % (101 : Int32))) (4636737291354636288 : UInt64))), .second, .val (.long (p1 <<< ((2 : Int32).toInt64 &&& 63))), .second, .val (.long ((p1 <<< ((2 : Int32).toInt64 &&& 63)) <<< ((1 : Int32).toInt64 &&& 63))), .second] [(.long ((p1 <<< ((2 : Int32).toInt64 &&& 63)) <<< ((1 : Int32).toInt64 &&& 63))), (.long ((p1 <<< ((2 : Int32).toInt64 &&& 63)) <<< ((1 : Int32).toInt64 &&& 63)))])) (fun t kt => XT.lload X4.here hx rfl (hb hby at_116) rfl kt) ?_
      refine Go.st (S' := T4.setTop (mkF m 119 #[.val (.int p0), .val (.long p1), .second, .val (.int p2), .val (.int ((p0 &&& (2147483647 : Int32)) % (3 : Int32))), .val (.int ((p2 &&& (2147483647 : Int32)) % (101 : Int32))), .val (.ref a1), .val (.double (FP.ddiv (FP.i2d ((p2 &&& (2147483647 : Int32)) % (101 : Int32))) (4636737291354636288 : UInt64))), .second, .val (.long (p1 <<< ((2 : Int32).toInt64 &&& 63))), .second, .val (.long ((p1 <<< ((2 : Int32).toInt64 &&& 63)) <<< ((1 : Int32).toInt64 &&& 63))), .second] [(.int (XT.cmpL ((p1 <<< ((2 : Int32).toInt64 &&& 63)) <<< ((1 : Int32).toInt64 &&& 63)) ((p1 <<< ((2 : Int32).toInt64 &&& 63)) <<< ((1 : Int32).toInt64 &&& 63))))])) (fun t kt => XT.lcmp X4.here hx rfl (hb hby at_118) rfl kt) ?_
      refine Go.st (S' := T4.setTop (mkF m 122 #[.val (.int p0), .val (.long p1), .second, .val (.int p2), .val (.int ((p0 &&& (2147483647 : Int32)) % (3 : Int32))), .val (.int ((p2 &&& (2147483647 : Int32)) % (101 : Int32))), .val (.ref a1), .val (.double (FP.ddiv (FP.i2d ((p2 &&& (2147483647 : Int32)) % (101 : Int32))) (4636737291354636288 : UInt64))), .second, .val (.long (p1 <<< ((2 : Int32).toInt64 &&& 63))), .second, .val (.long ((p1 <<< ((2 : Int32).toInt64 &&& 63)) <<< ((1 : Int32).toInt64 &&& 63))), .second] [])) (fun t kt => XS.ifNo X4.here hx rfl (hb hby at_119) rfl (XT.ll_ne_f rfl) kt) ?_
      refine Go.st (S' := T4.setTop (mkF m 123 #[.val (.int p0), .val (.long p1), .second, .val (.int p2), .val (.int ((p0 &&& (2147483647 : Int32)) % (3 : Int32))), .val (.int ((p2 &&& (2147483647 : Int32)) % (101 : Int32))), .val (.ref a1), .val (.double (FP.ddiv (FP.i2d ((p2 &&& (2147483647 : Int32)) % (101 : Int32))) (4636737291354636288 : UInt64))), .second, .val (.long (p1 <<< ((2 : Int32).toInt64 &&& 63))), .second, .val (.long ((p1 <<< ((2 : Int32).toInt64 &&& 63)) <<< ((1 : Int32).toInt64 &&& 63))), .second] [(.int (1 : Int32))])) (fun t kt => XS.iconst X4.here hx rfl (hb hby at_122) kt) ?_
      refine Go.st (S' := T4.setTop (mkF m 127 #[.val (.int p0), .val (.long p1), .second, .val (.int p2), .val (.int ((p0 &&& (2147483647 : Int32)) % (3 : Int32))), .val (.int ((p2 &&& (2147483647 : Int32)) % (101 : Int32))), .val (.ref a1), .val (.double (FP.ddiv (FP.i2d ((p2 &&& (2147483647 : Int32)) % (101 : Int32))) (4636737291354636288 : UInt64))), .second, .val (.long (p1 <<< ((2 : Int32).toInt64 &&& 63))), .second, .val (.long ((p1 <<< ((2 : Int32).toInt64 &&& 63)) <<< ((1 : Int32).toInt64 &&& 63))), .second] [(.int (1 : Int32))])) (fun t kt => XS.goto X4.here hx rfl (pc0 := 123) (pc' := 127) rfl (hb hby at_123) (by decide) (by decide) kt) ?_
      exact ret_b X4 hx hlk hret (hb hby at_127) (by decide) (by decide) (⟨rfl, N4⟩)
    · refine Go.st (S' := T2.setTop (mkF m 104 #[.val (.int p0), .val (.long p1), .second, .val (.int p2), .val (.int ((p0 &&& (2147483647 : Int32)) % (3 : Int32))), .val (.int ((p2 &&& (2147483647 : Int32)) % (101 : Int32))), .val (.ref a1), .val (.double (FP.ddiv (FP.i2d ((p2 &&& (2147483647 : Int32)) % (101 : Int32))) (4636737291354636288 : UInt64))), .second, .val (.long (p1 <<< ((2 : Int32).toInt64 &&& 63))), .second, .unset, .unset] [])) (fun t kt => XS.icmpYes X2.here hx rfl (pc0 := 92) (pc' := 104) rfl (hb hby at_92) rfl (XT.ii_ge_t hc92_3) (by decide) (by decide) kt) ?_
      refine Go.st (S' := T2.setTop (mkF m 106 #[.val (.int p0), .val (.long p1), .second, .val (.int p2), .val (.int ((p0 &&& (2147483647 : Int32)) % (3 : Int32))), .val (.int ((p2 &&& (2147483647 : Int32)) % (101 : Int32))), .val (.ref a1), .val (.double (FP.ddiv (FP.i2d ((p2 &&& (2147483647 : Int32)) % (101 : Int32))) (4636737291354636288 : UInt64))), .second, .val (.long (p1 <<< ((2 : Int32).toInt64 &&& 63))), .second, .unset, .unset] [(.long (p1 <<< ((2 : Int32).toInt64 &&& 63)))])) (fun t kt => XT.lload X2.here hx rfl (hb hby at_104) rfl kt) ?_
      refine Go.st (S' := T2.setTop (mkF m 108 #[.val (.int p0), .val (.long p1), .second, .val (.int p2), .val (.int ((p0 &&& (2147483647 : Int32)) % (3 : Int32))), .val (.int ((p2 &&& (2147483647 : Int32)) % (101 : Int32))), .val (.ref a1), .val (.double (FP.ddiv (FP.i2d ((p2 &&& (2147483647 : Int32)) % (101 : Int32))) (4636737291354636288 : UInt64))), .second, .val (.long (p1 <<< ((2 : Int32).toInt64 &&& 63))), .second, .val (.long (p1 <<< ((2 : Int32).toInt64 &&& 63))), .second] [])) (fun t kt => XT.lstore X2.here hx rfl (hb hby at_106) rfl rfl kt) ?_
      refine Go.st (S' := T2.setTop (mkF m 110 #[.val (.int p0), .val (.long p1), .second, .val (.int p2), .val (.int ((p0 &&& (2147483647 : Int32)) % (3 : Int32))), .val (.int ((p2 &&& (2147483647 : Int32)) % (101 : Int32))), .val (.ref a1), .val (.double (FP.ddiv (FP.i2d ((p2 &&& (2147483647 : Int32)) % (101 : Int32))) (4636737291354636288 : UInt64))), .second, .val (.long (p1 <<< ((2 : Int32).toInt64 &&& 63))), .second, .val (.long (p1 <<< ((2 : Int32).toInt64 &&& 63))), .second] [(.ref a1)])) (fun t kt => XS.aload X2.here hx rfl (hb hby at_108) rfl rfl kt) ?_
      refine Go.st (S' := T2.setTop (mkF m 111 #[.val (.int p0), .val (.long p1), .second, .val (.int p2), .val (.int ((p0 &&& (2147483647 : Int32)) % (3 : Int32))), .val (.int ((p2 &&& (2147483647 : Int32)) % (101 : Int32))), .val (.ref a1), .val (.double (FP.ddiv (FP.i2d ((p2 &&& (2147483647 : Int32)) % (101 : Int32))) (4636737291354636288 : UInt64))), .second, .val (.long (p1 <<< ((2 : Int32).toInt64 &&& 63))), .second, .val (.long (p1 <<< ((2 : Int32).toInt64 &&& 63))), .second] [(.long p1), (.ref a1)])) (fun t kt => XT.lloadN X2.here hx rfl (hb hby at_110) rfl kt) ?_
      refine Go.st (S' := T2.setTop (mkF m 113 #[.val (.int p0), .val (.long p1), .second, .val (.int p2), .val (.int ((p0 &&& (2147483647 : Int32)) % (3 : Int32))), .val (.int ((p2 &&& (2147483647 : Int32)) % (101 : Int32))), .val (.ref a1), .val (.double (FP.ddiv (FP.i2d ((p2 &&& (2147483647 : Int32)) % (101 : Int32))) (4636737291354636288 : UInt64))), .second, .val (.long (p1 <<< ((2 : Int32).toInt64 &&& 63))), .second, .val (.long (p1 <<< ((2 : Int32).toInt64 &&& 63))), .second] [(.double (FP.ddiv (FP.i2d ((p2 &&& (2147483647 : Int32)) % (101 : Int32))) (4636737291354636288 : UInt64))), (.long p1), (.ref a1)])) (fun t kt => XS.dload X2.here hx rfl (hb hby at_111) rfl kt) ?_
      refine Go.virt X2 hx hZ hown (hw _ (List.mem_of_getElem? (i := 5) rfl)) (hw _ (List.mem_of_getElem? (i := 6) rfl)) (notFace_of_selects (mvT (args := #[]) hZ (hw _ (List.mem_of_getElem? (i := 8) rfl)))) (hw _ (List.mem_of_getElem? (i := 8) rfl)) (hw _ (List.mem_of_getElem? (i := 7) rfl)) (hw _ (List.mem_of_getElem? (i := 9) rfl)) (hw _ (List.mem_of_getElem? (i := 2) rfl)) (by decide) (b := a1) (argsL := [(.long p1), (.double (FP.ddiv (FP.i2d ((p2 &&& (2147483647 : Int32)) % (101 : Int32))) (4636737291354636288 : UInt64)))]) (rest := []) (rm1 l Z a0 hw a1 p1 (p1 <<< ((2 : Int32).toInt64 &&& 63)) (FP.ddiv (FP.i2d ((p2 &&& (2147483647 : Int32)) % (101 : Int32))) (4636737291354636288 : UInt64)) (4 : Int32) h0 n0 Z0 F_a1 (by rw [if_neg (fun z => hc92_3 ((own_ratio p2).mp z)), own_b0 p1])) e2 E_a1 rfl (by rw [hml]; rfl) pd__JD_J rfl (hb hby at_113) 0 (Nat.le_refl _) (by decide) (by decide) (by decide) (by decide) ?_
      intro v5 T5 L5 X5 hQ5
      obtain ⟨hv5, N5', e5⟩ := hQ5
      subst hv5
      have N5 := Fr.app N0 N5'
      show Go pP eE below _ (T5.setTop (mkF m 116 #[.val (.int p0), .val (.long p1), .second, .val (.int p2), .val (.int ((p0 &&& (2147483647 : Int32)) % (3 : Int32))), .val (.int ((p2 &&& (2147483647 : Int32)) % (101 : Int32))), .val (.ref a1), .val (.double (FP.ddiv (FP.i2d ((p2 &&& (2147483647 : Int32)) % (101 : Int32))) (4636737291354636288 : UInt64))), .second, .val (.long (p1 <<< ((2 : Int32).toInt64 &&& 63))), .second, .val (.long (p1 <<< ((2 : Int32).toInt64 &&& 63))), .second] [(.long (p1 <<< ((2 : Int32).toInt64 &&& 63)))]))
      refine Go.st (S' := T5.setTop (mkF m 118 #[.val (.int p0), .val (.long p1), .second, .val (.int p2), .val (.int ((p0 &&& (2147483647 : Int32)) % (3 : Int32))), .val (.int ((p2 &&& (2147483647 : Int32)) % (101 : Int32))), .val (.ref a1), .val (.double (FP.ddiv (FP.i2d ((p2 &&& (2147483647 : Int32)) % (101 : Int32))) (4636737291354636288 : UInt64))), .second, .val (.long (p1 <<< ((2 : Int32).toInt64 &&& 63))), .second, .val (.long (p1 <<< ((2 : Int32).toInt64 &&& 63))), .second] [(.long (p1 <<< ((2 : Int32).toInt64 &&& 63))), (.long (p1 <<< ((2 : Int32).toInt64 &&& 63)))])) (fun t kt => XT.lload X5.here hx rfl (hb hby at_116) rfl kt) ?_
      refine Go.st (S' := T5.setTop (mkF m 119 #[.val (.int p0), .val (.long p1), .second, .val (.int p2), .val (.int ((p0 &&& (2147483647 : Int32)) % (3 : Int32))), .val (.int ((p2 &&& (2147483647 : Int32)) % (101 : Int32))), .val (.ref a1), .val (.double (FP.ddiv (FP.i2d ((p2 &&& (2147483647 : Int32)) % (101 : Int32))) (4636737291354636288 : UInt64))), .second, .val (.long (p1 <<< ((2 : Int32).toInt64 &&& 63))), .second, .val (.long (p1 <<< ((2 : Int32).toInt64 &&& 63))), .second] [(.int (XT.cmpL (p1 <<< ((2 : Int32).toInt64 &&& 63)) (p1 <<< ((2 : Int32).toInt64 &&& 63))))])) (fun t kt => XT.lcmp X5.here hx rfl (hb hby at_118) rfl kt) ?_
      refine Go.st (S' := T5.setTop (mkF m 122 #[.val (.int p0), .val (.long p1), .second, .val (.int p2), .val (.int ((p0 &&& (2147483647 : Int32)) % (3 : Int32))), .val (.int ((p2 &&& (2147483647 : Int32)) % (101 : Int32))), .val (.ref a1), .val (.double (FP.ddiv (FP.i2d ((p2 &&& (2147483647 : Int32)) % (101 : Int32))) (4636737291354636288 : UInt64))), .second, .val (.long (p1 <<< ((2 : Int32).toInt64 &&& 63))), .second, .val (.long (p1 <<< ((2 : Int32).toInt64 &&& 63))), .second] [])) (fun t kt => XS.ifNo X5.here hx rfl (hb hby at_119) rfl (XT.ll_ne_f rfl) kt) ?_
      refine Go.st (S' := T5.setTop (mkF m 123 #[.val (.int p0), .val (.long p1), .second, .val (.int p2), .val (.int ((p0 &&& (2147483647 : Int32)) % (3 : Int32))), .val (.int ((p2 &&& (2147483647 : Int32)) % (101 : Int32))), .val (.ref a1), .val (.double (FP.ddiv (FP.i2d ((p2 &&& (2147483647 : Int32)) % (101 : Int32))) (4636737291354636288 : UInt64))), .second, .val (.long (p1 <<< ((2 : Int32).toInt64 &&& 63))), .second, .val (.long (p1 <<< ((2 : Int32).toInt64 &&& 63))), .second] [(.int (1 : Int32))])) (fun t kt => XS.iconst X5.here hx rfl (hb hby at_122) kt) ?_
      refine Go.st (S' := T5.setTop (mkF m 127 #[.val (.int p0), .val (.long p1), .second, .val (.int p2), .val (.int ((p0 &&& (2147483647 : Int32)) % (3 : Int32))), .val (.int ((p2 &&& (2147483647 : Int32)) % (101 : Int32))), .val (.ref a1), .val (.double (FP.ddiv (FP.i2d ((p2 &&& (2147483647 : Int32)) % (101 : Int32))) (4636737291354636288 : UInt64))), .second, .val (.long (p1 <<< ((2 : Int32).toInt64 &&& 63))), .second, .val (.long (p1 <<< ((2 : Int32).toInt64 &&& 63))), .second] [(.int (1 : Int32))])) (fun t kt => XS.goto X5.here hx rfl (pc0 := 123) (pc' := 127) rfl (hb hby at_123) (by decide) (by decide) kt) ?_
      exact ret_b X5 hx hlk hret (hb hby at_127) (by decide) (by decide) (⟨rfl, N5⟩)
  · refine Go.st (S' := T.setTop (mkF m 30 #[.val (.int p0), .val (.long p1), .second, .val (.int p2), .val (.int ((p0 &&& (2147483647 : Int32)) % (3 : Int32))), .val (.int ((p2 &&& (2147483647 : Int32)) % (101 : Int32))), .unset, .unset, .unset, .unset, .unset, .unset, .unset] [])) (fun t kt => XS.ifYes X.here hx rfl (pc0 := 19) (pc' := 30) rfl (hb hby at_19) rfl (XT.i0_ne_t hc19_1) (by decide) (by decide) kt) ?_
    refine Go.st (S' := T.setTop (mkF m 32 #[.val (.int p0), .val (.long p1), .second, .val (.int p2), .val (.int ((p0 &&& (2147483647 : Int32)) % (3 : Int32))), .val (.int ((p2 &&& (2147483647 : Int32)) % (101 : Int32))), .unset, .unset, .unset, .unset, .unset, .unset, .unset] [(.int ((p0 &&& (2147483647 : Int32)) % (3 : Int32)))])) (fun t kt => XS.iload X.here hx rfl (hb hby at_30) rfl kt) ?_
    refine Go.st (S' := T.setTop (mkF m 33 #[.val (.int p0), .val (.long p1), .second, .val (.int p2), .val (.int ((p0 &&& (2147483647 : Int32)) % (3 : Int32))), .val (.int ((p2 &&& (2147483647 : Int32)) % (101 : Int32))), .unset, .unset, .unset, .unset, .unset, .unset, .unset] [(.int (1 : Int32)), (.int ((p0 &&& (2147483647 : Int32)) % (3 : Int32)))])) (fun t kt => XS.iconst X.here hx rfl (hb hby at_32) kt) ?_
    by_cases hc33_6 : ((p0 &&& (2147483647 : Int32)) % (3 : Int32)) = (1 : Int32)
    · refine Go.st (S' := T.setTop (mkF m 36 #[.val (.int p0), .val (.long p1), .second, .val (.int p2), .val (.int ((p0 &&& (2147483647 : Int32)) % (3 : Int32))), .val (.int ((p2 &&& (2147483647 : Int32)) % (101 : Int32))), .unset, .unset, .unset, .unset, .unset, .unset, .unset] [])) (fun t kt => XS.icmpNo X.here hx rfl (hb hby at_33) rfl (XT.ii_ne_f hc33_6) kt) ?_
      obtain ⟨T7, X7, e7, st7⟩ := getS X hx hZ (host := "") hown (hw _ (List.mem_of_getElem? (i := 14) rfl)) Via.refl eT S_a2 (g := (mkF m 36 #[.val (.int p0), .val (.long p1), .second, .val (.int p2), .val (.int ((p0 &&& (2147483647 : Int32)) % (3 : Int32))), .val (.int ((p2 &&& (2147483647 : Int32)) % (101 : Int32))), .unset, .unset, .unset, .unset, .unset, .unset, .unset] [])) rfl (hb hby at_36)
      refine Go.st (S' := T7.setTop (mkF m 39 #[.val (.int p0), .val (.long p1), .second, .val (.int p2), .val (.int ((p0 &&& (2147483647 : Int32)) % (3 : Int32))), .val (.int ((p2 &&& (2147483647 : Int32)) % (101 : Int32))), .unset, .unset, .unset, .unset, .unset, .unset, .unset] [(.ref a2)])) (fun t kt => st7 t kt) ?_
      refine Go.st (S' := T7.setTop (mkF m 41 #[.val (.int p0), .val (.long p1), .second, .val (.int p2), .val (.int ((p0 &&& (2147483647 : Int32)) % (3 : Int32))), .val (.int ((p2 &&& (2147483647 : Int32)) % (101 : Int32))), .val (.ref a2), .unset, .unset, .unset, .unset, .unset, .unset] [])) (fun t kt => XS.astore X7.here hx rfl (hb hby at_39) rfl rfl rfl kt) ?_
      refine Go.st (S' := T7.setTop (mkF m 49 #[.val (.int p0), .val (.long p1), .second, .val (.int p2), .val (.int ((p0 &&& (2147483647 : Int32)) % (3 : Int32))), .val (.int ((p2 &&& (2147483647 : Int32)) % (101 : Int32))), .val (.ref a2), .unset, .unset, .unset, .unset, .unset, .unset] [])) (fun t kt => XS.goto X7.here hx rfl (pc0 := 41) (pc' := 49) rfl (hb hby at_41) (by decide) (by decide) kt) ?_
      refine Go.st (S' := T7.setTop (mkF m 51 #[.val (.int p0), .val (.long p1), .second, .val (.int p2), .val (.int ((p0 &&& (2147483647 : Int32)) % (3 : Int32))), .val (.int ((p2 &&& (2147483647 : Int32)) % (101 : Int32))), .val (.ref a2), .unset, .unset, .unset, .unset, .unset, .unset] [(.int ((p2 &&& (2147483647 : Int32)) % (101 : Int32)))])) (fun t kt => XS.iload X7.here hx rfl (hb hby at_49) rfl kt) ?_
      refine Go.st (S' := T7.setTop (mkF m 52 #[.val (.int p0), .val (.long p1), .second, .val (.int p2), .val (.int ((p0 &&& (2147483647 : Int32)) % (3 : Int32))), .val (.int ((p2 &&& (2147483647 : Int32)) % (101 : Int32))), .val (.ref a2), .unset, .unset, .unset, .unset, .unset, .unset] [(.double (FP.i2d ((p2 &&& (2147483647 : Int32)) % (101 : Int32))))])) (fun t kt => XS.i2dS X7.here hx rfl (hb hby at_51) rfl rfl kt) ?_
      refine Go.st (S' := T7.setTop (mkF m 55 #[.val (.int p0), .val (.long p1), .second, .val (.int p2), .val (.int ((p0 &&& (2147483647 : Int32)) % (3 : Int32))), .val (.int ((p2 &&& (2147483647 : Int32)) % (101 : Int32))), .val (.ref a2), .unset, .unset, .unset, .unset, .unset, .unset] [(.double (4636737291354636288 : UInt64)), (.double (FP.i2d ((p2 &&& (2147483647 : Int32)) % (101 : Int32))))])) (fun t kt => X7.ldc2DoubleC hx hown (mv hZ (hw _ (List.mem_of_getElem? (i := 4) rfl))) (g := (mkF m 52 #[.val (.int p0), .val (.long p1), .second, .val (.int p2), .val (.int ((p0 &&& (2147483647 : Int32)) % (3 : Int32))), .val (.int ((p2 &&& (2147483647 : Int32)) % (101 : Int32))), .val (.ref a2), .unset, .unset, .unset, .unset, .unset, .unset] [(.double (FP.i2d ((p2 &&& (2147483647 : Int32)) % (101 : Int32))))])) rfl (hb hby at_52) t kt) ?_
      refine Go.st (S' := T7.setTop (mkF m 56 #[.val (.int p0), .val (.long p1), .second, .val (.int p2), .val (.int ((p0 &&& (2147483647 : Int32)) % (3 : Int32))), .val (.int ((p2 &&& (2147483647 : Int32)) % (101 : Int32))), .val (.ref a2), .unset, .unset, .unset, .unset, .unset, .unset] [(.double (FP.ddiv (FP.i2d ((p2 &&& (2147483647 : Int32)) % (101 : Int32))) (4636737291354636288 : UInt64)))])) (fun t kt => XS.ddivS X7.here hx rfl (hb hby at_55) rfl (own_nn _) rfl kt) ?_
      refine Go.st (S' := T7.setTop (mkF m 58 #[.val (.int p0), .val (.long p1), .second, .val (.int p2), .val (.int ((p0 &&& (2147483647 : Int32)) % (3 : Int32))), .val (.int ((p2 &&& (2147483647 : Int32)) % (101 : Int32))), .val (.ref a2), .val (.double (FP.ddiv (FP.i2d ((p2 &&& (2147483647 : Int32)) % (101 : Int32))) (4636737291354636288 : UInt64))), .second, .unset, .unset, .unset, .unset] [])) (fun t kt => XS.dstore X7.here hx rfl (hb hby at_56) rfl rfl kt) ?_
      refine Go.st (S' := T7.setTop (mkF m 60 #[.val (.int p0), .val (.long p1), .second, .val (.int p2), .val (.int ((p0 &&& (2147483647 : Int32)) % (3 : Int32))), .val (.int ((p2 &&& (2147483647 : Int32)) % (101 : Int32))), .val (.ref a2), .val (.double (FP.ddiv (FP.i2d ((p2 &&& (2147483647 : Int32)) % (101 : Int32))) (4636737291354636288 : UInt64))), .second, .unset, .unset, .unset, .unset] [(.int ((p0 &&& (2147483647 : Int32)) % (3 : Int32)))])) (fun t kt => XS.iload X7.here hx rfl (hb hby at_58) rfl kt) ?_
      refine Go.st (S' := T7.setTop (mkF m 71 #[.val (.int p0), .val (.long p1), .second, .val (.int p2), .val (.int ((p0 &&& (2147483647 : Int32)) % (3 : Int32))), .val (.int ((p2 &&& (2147483647 : Int32)) % (101 : Int32))), .val (.ref a2), .val (.double (FP.ddiv (FP.i2d ((p2 &&& (2147483647 : Int32)) % (101 : Int32))) (4636737291354636288 : UInt64))), .second, .unset, .unset, .unset, .unset] [])) (fun t kt => XS.ifYes X7.here hx rfl (pc0 := 60) (pc' := 71) rfl (hb hby at_60) rfl (XT.i0_ne_t hc19_1) (by decide) (by decide) kt) ?_
      refine Go.st (S' := T7.setTop (mkF m 73 #[.val (.int p0), .val (.long p1), .second, .val (.int p2), .val (.int ((p0 &&& (2147483647 : Int32)) % (3 : Int32))), .val (.int ((p2 &&& (2147483647 : Int32)) % (101 : Int32))), .val (.ref a2), .val (.double (FP.ddiv (FP.i2d ((p2 &&& (2147483647 : Int32)) % (101 : Int32))) (4636737291354636288 : UInt64))), .second, .unset, .unset, .unset, .unset] [(.int ((p0 &&& (2147483647 : Int32)) % (3 : Int32)))])) (fun t kt => XS.iload X7.here hx rfl (hb hby at_71) rfl kt) ?_
      refine Go.st (S' := T7.setTop (mkF m 74 #[.val (.int p0), .val (.long p1), .second, .val (.int p2), .val (.int ((p0 &&& (2147483647 : Int32)) % (3 : Int32))), .val (.int ((p2 &&& (2147483647 : Int32)) % (101 : Int32))), .val (.ref a2), .val (.double (FP.ddiv (FP.i2d ((p2 &&& (2147483647 : Int32)) % (101 : Int32))) (4636737291354636288 : UInt64))), .second, .unset, .unset, .unset, .unset] [(.int (1 : Int32)), (.int ((p0 &&& (2147483647 : Int32)) % (3 : Int32)))])) (fun t kt => XS.iconst X7.here hx rfl (hb hby at_73) kt) ?_
      refine Go.st (S' := T7.setTop (mkF m 77 #[.val (.int p0), .val (.long p1), .second, .val (.int p2), .val (.int ((p0 &&& (2147483647 : Int32)) % (3 : Int32))), .val (.int ((p2 &&& (2147483647 : Int32)) % (101 : Int32))), .val (.ref a2), .val (.double (FP.ddiv (FP.i2d ((p2 &&& (2147483647 : Int32)) % (101 : Int32))) (4636737291354636288 : UInt64))), .second, .unset, .unset, .unset, .unset] [])) (fun t kt => XS.icmpNo X7.here hx rfl (hb hby at_74) rfl (XT.ii_ne_f hc33_6) kt) ?_
      refine Go.st (S' := T7.setTop (mkF m 78 #[.val (.int p0), .val (.long p1), .second, .val (.int p2), .val (.int ((p0 &&& (2147483647 : Int32)) % (3 : Int32))), .val (.int ((p2 &&& (2147483647 : Int32)) % (101 : Int32))), .val (.ref a2), .val (.double (FP.ddiv (FP.i2d ((p2 &&& (2147483647 : Int32)) % (101 : Int32))) (4636737291354636288 : UInt64))), .second, .unset, .unset, .unset, .unset] [(.long p1)])) (fun t kt => XT.lloadN X7.here hx rfl (hb hby at_77) rfl kt) ?_
      refine Go.st (S' := T7.setTop (mkF m 79 #[.val (.int p0), .val (.long p1), .second, .val (.int p2), .val (.int ((p0 &&& (2147483647 : Int32)) % (3 : Int32))), .val (.int ((p2 &&& (2147483647 : Int32)) % (101 : Int32))), .val (.ref a2), .val (.double (FP.ddiv (FP.i2d ((p2 &&& (2147483647 : Int32)) % (101 : Int32))) (4636737291354636288 : UInt64))), .second, .unset, .unset, .unset, .unset] [(.int (1 : Int32)), (.long p1)])) (fun t kt => XS.iconst X7.here hx rfl (hb hby at_78) kt) ?_
      refine Go.st (S' := T7.setTop (mkF m 80 #[.val (.int p0), .val (.long p1), .second, .val (.int p2), .val (.int ((p0 &&& (2147483647 : Int32)) % (3 : Int32))), .val (.int ((p2 &&& (2147483647 : Int32)) % (101 : Int32))), .val (.ref a2), .val (.double (FP.ddiv (FP.i2d ((p2 &&& (2147483647 : Int32)) % (101 : Int32))) (4636737291354636288 : UInt64))), .second, .unset, .unset, .unset, .unset] [(.long (p1 <<< ((1 : Int32).toInt64 &&& 63)))])) (fun t kt => XT.lshl X7.here hx rfl (hb hby at_79) rfl kt) ?_
      refine Go.st (S' := T7.setTop (mkF m 82 #[.val (.int p0), .val (.long p1), .second, .val (.int p2), .val (.int ((p0 &&& (2147483647 : Int32)) % (3 : Int32))), .val (.int ((p2 &&& (2147483647 : Int32)) % (101 : Int32))), .val (.ref a2), .val (.double (FP.ddiv (FP.i2d ((p2 &&& (2147483647 : Int32)) % (101 : Int32))) (4636737291354636288 : UInt64))), .second, .val (.long (p1 <<< ((1 : Int32).toInt64 &&& 63))), .second, .unset, .unset] [])) (fun t kt => XT.lstore X7.here hx rfl (hb hby at_80) rfl rfl kt) ?_
      refine Go.st (S' := T7.setTop (mkF m 88 #[.val (.int p0), .val (.long p1), .second, .val (.int p2), .val (.int ((p0 &&& (2147483647 : Int32)) % (3 : Int32))), .val (.int ((p2 &&& (2147483647 : Int32)) % (101 : Int32))), .val (.ref a2), .val (.double (FP.ddiv (FP.i2d ((p2 &&& (2147483647 : Int32)) % (101 : Int32))) (4636737291354636288 : UInt64))), .second, .val (.long (p1 <<< ((1 : Int32).toInt64 &&& 63))), .second, .unset, .unset] [])) (fun t kt => XS.goto X7.here hx rfl (pc0 := 82) (pc' := 88) rfl (hb hby at_82) (by decide) (by decide) kt) ?_
      refine Go.st (S' := T7.setTop (mkF m 90 #[.val (.int p0), .val (.long p1), .second, .val (.int p2), .val (.int ((p0 &&& (2147483647 : Int32)) % (3 : Int32))), .val (.int ((p2 &&& (2147483647 : Int32)) % (101 : Int32))), .val (.ref a2), .val (.double (FP.ddiv (FP.i2d ((p2 &&& (2147483647 : Int32)) % (101 : Int32))) (4636737291354636288 : UInt64))), .second, .val (.long (p1 <<< ((1 : Int32).toInt64 &&& 63))), .second, .unset, .unset] [(.int ((p2 &&& (2147483647 : Int32)) % (101 : Int32)))])) (fun t kt => XS.iload X7.here hx rfl (hb hby at_88) rfl kt) ?_
      refine Go.st (S' := T7.setTop (mkF m 92 #[.val (.int p0), .val (.long p1), .second, .val (.int p2), .val (.int ((p0 &&& (2147483647 : Int32)) % (3 : Int32))), .val (.int ((p2 &&& (2147483647 : Int32)) % (101 : Int32))), .val (.ref a2), .val (.double (FP.ddiv (FP.i2d ((p2 &&& (2147483647 : Int32)) % (101 : Int32))) (4636737291354636288 : UInt64))), .second, .val (.long (p1 <<< ((1 : Int32).toInt64 &&& 63))), .second, .unset, .unset] [(.int (70 : Int32)), (.int ((p2 &&& (2147483647 : Int32)) % (101 : Int32)))])) (fun t kt => XT.bipushV X7.here hx rfl (70 : Int32) (hb hby at_90) (by decide) kt) ?_
      by_cases hc92_8 : ((p2 &&& (2147483647 : Int32)) % (101 : Int32)) < (70 : Int32)
      · refine Go.st (S' := T7.setTop (mkF m 95 #[.val (.int p0), .val (.long p1), .second, .val (.int p2), .val (.int ((p0 &&& (2147483647 : Int32)) % (3 : Int32))), .val (.int ((p2 &&& (2147483647 : Int32)) % (101 : Int32))), .val (.ref a2), .val (.double (FP.ddiv (FP.i2d ((p2 &&& (2147483647 : Int32)) % (101 : Int32))) (4636737291354636288 : UInt64))), .second, .val (.long (p1 <<< ((1 : Int32).toInt64 &&& 63))), .second, .unset, .unset] [])) (fun t kt => XS.icmpNo X7.here hx rfl (hb hby at_92) rfl (XT.ii_ge_f hc92_8) kt) ?_
        refine Go.st (S' := T7.setTop (mkF m 97 #[.val (.int p0), .val (.long p1), .second, .val (.int p2), .val (.int ((p0 &&& (2147483647 : Int32)) % (3 : Int32))), .val (.int ((p2 &&& (2147483647 : Int32)) % (101 : Int32))), .val (.ref a2), .val (.double (FP.ddiv (FP.i2d ((p2 &&& (2147483647 : Int32)) % (101 : Int32))) (4636737291354636288 : UInt64))), .second, .val (.long (p1 <<< ((1 : Int32).toInt64 &&& 63))), .second, .unset, .unset] [(.long (p1 <<< ((1 : Int32).toInt64 &&& 63)))])) (fun t kt => XT.lload X7.here hx rfl (hb hby at_95) rfl kt) ?_
        refine Go.st (S' := T7.setTop (mkF m 98 #[.val (.int p0), .val (.long p1), .second, .val (.int p2), .val (.int ((p0 &&& (2147483647 : Int32)) % (3 : Int32))), .val (.int ((p2 &&& (2147483647 : Int32)) % (101 : Int32))), .val (.ref a2), .val (.double (FP.ddiv (FP.i2d ((p2 &&& (2147483647 : Int32)) % (101 : Int32))) (4636737291354636288 : UInt64))), .second, .val (.long (p1 <<< ((1 : Int32).toInt64 &&& 63))), .second, .unset, .unset] [(.int (1 : Int32)), (.long (p1 <<< ((1 : Int32).toInt64 &&& 63)))])) (fun t kt => XS.iconst X7.here hx rfl (hb hby at_97) kt) ?_
        refine Go.st (S' := T7.setTop (mkF m 99 #[.val (.int p0), .val (.long p1), .second, .val (.int p2), .val (.int ((p0 &&& (2147483647 : Int32)) % (3 : Int32))), .val (.int ((p2 &&& (2147483647 : Int32)) % (101 : Int32))), .val (.ref a2), .val (.double (FP.ddiv (FP.i2d ((p2 &&& (2147483647 : Int32)) % (101 : Int32))) (4636737291354636288 : UInt64))), .second, .val (.long (p1 <<< ((1 : Int32).toInt64 &&& 63))), .second, .unset, .unset] [(.long ((p1 <<< ((1 : Int32).toInt64 &&& 63)) <<< ((1 : Int32).toInt64 &&& 63)))])) (fun t kt => XT.lshl X7.here hx rfl (hb hby at_98) rfl kt) ?_
        refine Go.st (S' := T7.setTop (mkF m 101 #[.val (.int p0), .val (.long p1), .second, .val (.int p2), .val (.int ((p0 &&& (2147483647 : Int32)) % (3 : Int32))), .val (.int ((p2 &&& (2147483647 : Int32)) % (101 : Int32))), .val (.ref a2), .val (.double (FP.ddiv (FP.i2d ((p2 &&& (2147483647 : Int32)) % (101 : Int32))) (4636737291354636288 : UInt64))), .second, .val (.long (p1 <<< ((1 : Int32).toInt64 &&& 63))), .second, .val (.long ((p1 <<< ((1 : Int32).toInt64 &&& 63)) <<< ((1 : Int32).toInt64 &&& 63))), .second] [])) (fun t kt => XT.lstore X7.here hx rfl (hb hby at_99) rfl rfl kt) ?_
        refine Go.st (S' := T7.setTop (mkF m 108 #[.val (.int p0), .val (.long p1), .second, .val (.int p2), .val (.int ((p0 &&& (2147483647 : Int32)) % (3 : Int32))), .val (.int ((p2 &&& (2147483647 : Int32)) % (101 : Int32))), .val (.ref a2), .val (.double (FP.ddiv (FP.i2d ((p2 &&& (2147483647 : Int32)) % (101 : Int32))) (4636737291354636288 : UInt64))), .second, .val (.long (p1 <<< ((1 : Int32).toInt64 &&& 63))), .second, .val (.long ((p1 <<< ((1 : Int32).toInt64 &&& 63)) <<< ((1 : Int32).toInt64 &&& 63))), .second] [])) (fun t kt => XS.goto X7.here hx rfl (pc0 := 101) (pc' := 108) rfl (hb hby at_101) (by decide) (by decide) kt) ?_
        refine Go.st (S' := T7.setTop (mkF m 110 #[.val (.int p0), .val (.long p1), .second, .val (.int p2), .val (.int ((p0 &&& (2147483647 : Int32)) % (3 : Int32))), .val (.int ((p2 &&& (2147483647 : Int32)) % (101 : Int32))), .val (.ref a2), .val (.double (FP.ddiv (FP.i2d ((p2 &&& (2147483647 : Int32)) % (101 : Int32))) (4636737291354636288 : UInt64))), .second, .val (.long (p1 <<< ((1 : Int32).toInt64 &&& 63))), .second, .val (.long ((p1 <<< ((1 : Int32).toInt64 &&& 63)) <<< ((1 : Int32).toInt64 &&& 63))), .second] [(.ref a2)])) (fun t kt => XS.aload X7.here hx rfl (hb hby at_108) rfl rfl kt) ?_
        refine Go.st (S' := T7.setTop (mkF m 111 #[.val (.int p0), .val (.long p1), .second, .val (.int p2), .val (.int ((p0 &&& (2147483647 : Int32)) % (3 : Int32))), .val (.int ((p2 &&& (2147483647 : Int32)) % (101 : Int32))), .val (.ref a2), .val (.double (FP.ddiv (FP.i2d ((p2 &&& (2147483647 : Int32)) % (101 : Int32))) (4636737291354636288 : UInt64))), .second, .val (.long (p1 <<< ((1 : Int32).toInt64 &&& 63))), .second, .val (.long ((p1 <<< ((1 : Int32).toInt64 &&& 63)) <<< ((1 : Int32).toInt64 &&& 63))), .second] [(.long p1), (.ref a2)])) (fun t kt => XT.lloadN X7.here hx rfl (hb hby at_110) rfl kt) ?_
        refine Go.st (S' := T7.setTop (mkF m 113 #[.val (.int p0), .val (.long p1), .second, .val (.int p2), .val (.int ((p0 &&& (2147483647 : Int32)) % (3 : Int32))), .val (.int ((p2 &&& (2147483647 : Int32)) % (101 : Int32))), .val (.ref a2), .val (.double (FP.ddiv (FP.i2d ((p2 &&& (2147483647 : Int32)) % (101 : Int32))) (4636737291354636288 : UInt64))), .second, .val (.long (p1 <<< ((1 : Int32).toInt64 &&& 63))), .second, .val (.long ((p1 <<< ((1 : Int32).toInt64 &&& 63)) <<< ((1 : Int32).toInt64 &&& 63))), .second] [(.double (FP.ddiv (FP.i2d ((p2 &&& (2147483647 : Int32)) % (101 : Int32))) (4636737291354636288 : UInt64))), (.long p1), (.ref a2)])) (fun t kt => XS.dload X7.here hx rfl (hb hby at_111) rfl kt) ?_
        refine Go.virt X7 hx hZ hown (hw _ (List.mem_of_getElem? (i := 5) rfl)) (hw _ (List.mem_of_getElem? (i := 6) rfl)) (notFace_of_selects (mvT (args := #[]) hZ (hw _ (List.mem_of_getElem? (i := 8) rfl)))) (hw _ (List.mem_of_getElem? (i := 8) rfl)) (hw _ (List.mem_of_getElem? (i := 7) rfl)) (hw _ (List.mem_of_getElem? (i := 9) rfl)) (hw _ (List.mem_of_getElem? (i := 2) rfl)) (by decide) (b := a2) (argsL := [(.long p1), (.double (FP.ddiv (FP.i2d ((p2 &&& (2147483647 : Int32)) % (101 : Int32))) (4636737291354636288 : UInt64)))]) (rest := []) (rm1 l Z a0 hw a2 p1 ((p1 <<< ((1 : Int32).toInt64 &&& 63)) <<< ((1 : Int32).toInt64 &&& 63)) (FP.ddiv (FP.i2d ((p2 &&& (2147483647 : Int32)) % (101 : Int32))) (4636737291354636288 : UInt64)) (2 : Int32) h0 n0 Z0 F_a2 (by rw [if_pos ((own_ratio p2).mpr hc92_8), own_d, own_b1 p1])) e7 E_a2 rfl (by rw [hml]; rfl) pd__JD_J rfl (hb hby at_113) 0 (Nat.le_refl _) (by decide) (by decide) (by decide) (by decide) ?_
        intro v9 T9 L9 X9 hQ9
        obtain ⟨hv9, N9', e9⟩ := hQ9
        subst hv9
        have N9 := Fr.app N0 N9'
        show Go pP eE below _ (T9.setTop (mkF m 116 #[.val (.int p0), .val (.long p1), .second, .val (.int p2), .val (.int ((p0 &&& (2147483647 : Int32)) % (3 : Int32))), .val (.int ((p2 &&& (2147483647 : Int32)) % (101 : Int32))), .val (.ref a2), .val (.double (FP.ddiv (FP.i2d ((p2 &&& (2147483647 : Int32)) % (101 : Int32))) (4636737291354636288 : UInt64))), .second, .val (.long (p1 <<< ((1 : Int32).toInt64 &&& 63))), .second, .val (.long ((p1 <<< ((1 : Int32).toInt64 &&& 63)) <<< ((1 : Int32).toInt64 &&& 63))), .second] [(.long ((p1 <<< ((1 : Int32).toInt64 &&& 63)) <<< ((1 : Int32).toInt64 &&& 63)))]))
        refine Go.st (S' := T9.setTop (mkF m 118 #[.val (.int p0), .val (.long p1), .second, .val (.int p2), .val (.int ((p0 &&& (2147483647 : Int32)) % (3 : Int32))), .val (.int ((p2 &&& (2147483647 : Int32)) % (101 : Int32))), .val (.ref a2), .val (.double (FP.ddiv (FP.i2d ((p2 &&& (2147483647 : Int32)) % (101 : Int32))) (4636737291354636288 : UInt64))), .second, .val (.long (p1 <<< ((1 : Int32).toInt64 &&& 63))), .second, .val (.long ((p1 <<< ((1 : Int32).toInt64 &&& 63)) <<< ((1 : Int32).toInt64 &&& 63))), .second] [(.long ((p1 <<< ((1 : Int32).toInt64 &&& 63)) <<< ((1 : Int32).toInt64 &&& 63))), (.long ((p1 <<< ((1 : Int32).toInt64 &&& 63)) <<< ((1 : Int32).toInt64 &&& 63)))])) (fun t kt => XT.lload X9.here hx rfl (hb hby at_116) rfl kt) ?_
        refine Go.st (S' := T9.setTop (mkF m 119 #[.val (.int p0), .val (.long p1), .second, .val (.int p2), .val (.int ((p0 &&& (2147483647 : Int32)) % (3 : Int32))), .val (.int ((p2 &&& (2147483647 : Int32)) % (101 : Int32))), .val (.ref a2), .val (.double (FP.ddiv (FP.i2d ((p2 &&& (2147483647 : Int32)) % (101 : Int32))) (4636737291354636288 : UInt64))), .second, .val (.long (p1 <<< ((1 : Int32).toInt64 &&& 63))), .second, .val (.long ((p1 <<< ((1 : Int32).toInt64 &&& 63)) <<< ((1 : Int32).toInt64 &&& 63))), .second] [(.int (XT.cmpL ((p1 <<< ((1 : Int32).toInt64 &&& 63)) <<< ((1 : Int32).toInt64 &&& 63)) ((p1 <<< ((1 : Int32).toInt64 &&& 63)) <<< ((1 : Int32).toInt64 &&& 63))))])) (fun t kt => XT.lcmp X9.here hx rfl (hb hby at_118) rfl kt) ?_
        refine Go.st (S' := T9.setTop (mkF m 122 #[.val (.int p0), .val (.long p1), .second, .val (.int p2), .val (.int ((p0 &&& (2147483647 : Int32)) % (3 : Int32))), .val (.int ((p2 &&& (2147483647 : Int32)) % (101 : Int32))), .val (.ref a2), .val (.double (FP.ddiv (FP.i2d ((p2 &&& (2147483647 : Int32)) % (101 : Int32))) (4636737291354636288 : UInt64))), .second, .val (.long (p1 <<< ((1 : Int32).toInt64 &&& 63))), .second, .val (.long ((p1 <<< ((1 : Int32).toInt64 &&& 63)) <<< ((1 : Int32).toInt64 &&& 63))), .second] [])) (fun t kt => XS.ifNo X9.here hx rfl (hb hby at_119) rfl (XT.ll_ne_f rfl) kt) ?_
        refine Go.st (S' := T9.setTop (mkF m 123 #[.val (.int p0), .val (.long p1), .second, .val (.int p2), .val (.int ((p0 &&& (2147483647 : Int32)) % (3 : Int32))), .val (.int ((p2 &&& (2147483647 : Int32)) % (101 : Int32))), .val (.ref a2), .val (.double (FP.ddiv (FP.i2d ((p2 &&& (2147483647 : Int32)) % (101 : Int32))) (4636737291354636288 : UInt64))), .second, .val (.long (p1 <<< ((1 : Int32).toInt64 &&& 63))), .second, .val (.long ((p1 <<< ((1 : Int32).toInt64 &&& 63)) <<< ((1 : Int32).toInt64 &&& 63))), .second] [(.int (1 : Int32))])) (fun t kt => XS.iconst X9.here hx rfl (hb hby at_122) kt) ?_
        refine Go.st (S' := T9.setTop (mkF m 127 #[.val (.int p0), .val (.long p1), .second, .val (.int p2), .val (.int ((p0 &&& (2147483647 : Int32)) % (3 : Int32))), .val (.int ((p2 &&& (2147483647 : Int32)) % (101 : Int32))), .val (.ref a2), .val (.double (FP.ddiv (FP.i2d ((p2 &&& (2147483647 : Int32)) % (101 : Int32))) (4636737291354636288 : UInt64))), .second, .val (.long (p1 <<< ((1 : Int32).toInt64 &&& 63))), .second, .val (.long ((p1 <<< ((1 : Int32).toInt64 &&& 63)) <<< ((1 : Int32).toInt64 &&& 63))), .second] [(.int (1 : Int32))])) (fun t kt => XS.goto X9.here hx rfl (pc0 := 123) (pc' := 127) rfl (hb hby at_123) (by decide) (by decide) kt) ?_
        exact ret_b X9 hx hlk hret (hb hby at_127) (by decide) (by decide) (⟨rfl, N9⟩)
      · refine Go.st (S' := T7.setTop (mkF m 104 #[.val (.int p0), .val (.long p1), .second, .val (.int p2), .val (.int ((p0 &&& (2147483647 : Int32)) % (3 : Int32))), .val (.int ((p2 &&& (2147483647 : Int32)) % (101 : Int32))), .val (.ref a2), .val (.double (FP.ddiv (FP.i2d ((p2 &&& (2147483647 : Int32)) % (101 : Int32))) (4636737291354636288 : UInt64))), .second, .val (.long (p1 <<< ((1 : Int32).toInt64 &&& 63))), .second, .unset, .unset] [])) (fun t kt => XS.icmpYes X7.here hx rfl (pc0 := 92) (pc' := 104) rfl (hb hby at_92) rfl (XT.ii_ge_t hc92_8) (by decide) (by decide) kt) ?_
        refine Go.st (S' := T7.setTop (mkF m 106 #[.val (.int p0), .val (.long p1), .second, .val (.int p2), .val (.int ((p0 &&& (2147483647 : Int32)) % (3 : Int32))), .val (.int ((p2 &&& (2147483647 : Int32)) % (101 : Int32))), .val (.ref a2), .val (.double (FP.ddiv (FP.i2d ((p2 &&& (2147483647 : Int32)) % (101 : Int32))) (4636737291354636288 : UInt64))), .second, .val (.long (p1 <<< ((1 : Int32).toInt64 &&& 63))), .second, .unset, .unset] [(.long (p1 <<< ((1 : Int32).toInt64 &&& 63)))])) (fun t kt => XT.lload X7.here hx rfl (hb hby at_104) rfl kt) ?_
        refine Go.st (S' := T7.setTop (mkF m 108 #[.val (.int p0), .val (.long p1), .second, .val (.int p2), .val (.int ((p0 &&& (2147483647 : Int32)) % (3 : Int32))), .val (.int ((p2 &&& (2147483647 : Int32)) % (101 : Int32))), .val (.ref a2), .val (.double (FP.ddiv (FP.i2d ((p2 &&& (2147483647 : Int32)) % (101 : Int32))) (4636737291354636288 : UInt64))), .second, .val (.long (p1 <<< ((1 : Int32).toInt64 &&& 63))), .second, .val (.long (p1 <<< ((1 : Int32).toInt64 &&& 63))), .second] [])) (fun t kt => XT.lstore X7.here hx rfl (hb hby at_106) rfl rfl kt) ?_
        refine Go.st (S' := T7.setTop (mkF m 110 #[.val (.int p0), .val (.long p1), .second, .val (.int p2), .val (.int ((p0 &&& (2147483647 : Int32)) % (3 : Int32))), .val (.int ((p2 &&& (2147483647 : Int32)) % (101 : Int32))), .val (.ref a2), .val (.double (FP.ddiv (FP.i2d ((p2 &&& (2147483647 : Int32)) % (101 : Int32))) (4636737291354636288 : UInt64))), .second, .val (.long (p1 <<< ((1 : Int32).toInt64 &&& 63))), .second, .val (.long (p1 <<< ((1 : Int32).toInt64 &&& 63))), .second] [(.ref a2)])) (fun t kt => XS.aload X7.here hx rfl (hb hby at_108) rfl rfl kt) ?_
        refine Go.st (S' := T7.setTop (mkF m 111 #[.val (.int p0), .val (.long p1), .second, .val (.int p2), .val (.int ((p0 &&& (2147483647 : Int32)) % (3 : Int32))), .val (.int ((p2 &&& (2147483647 : Int32)) % (101 : Int32))), .val (.ref a2), .val (.double (FP.ddiv (FP.i2d ((p2 &&& (2147483647 : Int32)) % (101 : Int32))) (4636737291354636288 : UInt64))), .second, .val (.long (p1 <<< ((1 : Int32).toInt64 &&& 63))), .second, .val (.long (p1 <<< ((1 : Int32).toInt64 &&& 63))), .second] [(.long p1), (.ref a2)])) (fun t kt => XT.lloadN X7.here hx rfl (hb hby at_110) rfl kt) ?_
        refine Go.st (S' := T7.setTop (mkF m 113 #[.val (.int p0), .val (.long p1), .second, .val (.int p2), .val (.int ((p0 &&& (2147483647 : Int32)) % (3 : Int32))), .val (.int ((p2 &&& (2147483647 : Int32)) % (101 : Int32))), .val (.ref a2), .val (.double (FP.ddiv (FP.i2d ((p2 &&& (2147483647 : Int32)) % (101 : Int32))) (4636737291354636288 : UInt64))), .second, .val (.long (p1 <<< ((1 : Int32).toInt64 &&& 63))), .second, .val (.long (p1 <<< ((1 : Int32).toInt64 &&& 63))), .second] [(.double (FP.ddiv (FP.i2d ((p2 &&& (2147483647 : Int32)) % (101 : Int32))) (4636737291354636288 : UInt64))), (.long p1), (.ref a2)])) (fun t kt => XS.dload X7.here hx rfl (hb hby at_111) rfl kt) ?_
        refine Go.virt X7 hx hZ hown (hw _ (List.mem_of_getElem? (i := 5) rfl)) (hw _ (List.mem_of_getElem? (i := 6) rfl)) (notFace_of_selects (mvT (args := #[]) hZ (hw _ (List.mem_of_getElem? (i := 8) rfl)))) (hw _ (List.mem_of_getElem? (i := 8) rfl)) (hw _ (List.mem_of_getElem? (i := 7) rfl)) (hw _ (List.mem_of_getElem? (i := 9) rfl)) (hw _ (List.mem_of_getElem? (i := 2) rfl)) (by decide) (b := a2) (argsL := [(.long p1), (.double (FP.ddiv (FP.i2d ((p2 &&& (2147483647 : Int32)) % (101 : Int32))) (4636737291354636288 : UInt64)))]) (rest := []) (rm1 l Z a0 hw a2 p1 (p1 <<< ((1 : Int32).toInt64 &&& 63)) (FP.ddiv (FP.i2d ((p2 &&& (2147483647 : Int32)) % (101 : Int32))) (4636737291354636288 : UInt64)) (2 : Int32) h0 n0 Z0 F_a2 (by rw [if_neg (fun z => hc92_8 ((own_ratio p2).mp z)), own_b1 p1])) e7 E_a2 rfl (by rw [hml]; rfl) pd__JD_J rfl (hb hby at_113) 0 (Nat.le_refl _) (by decide) (by decide) (by decide) (by decide) ?_
        intro v10 T10 L10 X10 hQ10
        obtain ⟨hv10, N10', e10⟩ := hQ10
        subst hv10
        have N10 := Fr.app N0 N10'
        show Go pP eE below _ (T10.setTop (mkF m 116 #[.val (.int p0), .val (.long p1), .second, .val (.int p2), .val (.int ((p0 &&& (2147483647 : Int32)) % (3 : Int32))), .val (.int ((p2 &&& (2147483647 : Int32)) % (101 : Int32))), .val (.ref a2), .val (.double (FP.ddiv (FP.i2d ((p2 &&& (2147483647 : Int32)) % (101 : Int32))) (4636737291354636288 : UInt64))), .second, .val (.long (p1 <<< ((1 : Int32).toInt64 &&& 63))), .second, .val (.long (p1 <<< ((1 : Int32).toInt64 &&& 63))), .second] [(.long (p1 <<< ((1 : Int32).toInt64 &&& 63)))]))
        refine Go.st (S' := T10.setTop (mkF m 118 #[.val (.int p0), .val (.long p1), .second, .val (.int p2), .val (.int ((p0 &&& (2147483647 : Int32)) % (3 : Int32))), .val (.int ((p2 &&& (2147483647 : Int32)) % (101 : Int32))), .val (.ref a2), .val (.double (FP.ddiv (FP.i2d ((p2 &&& (2147483647 : Int32)) % (101 : Int32))) (4636737291354636288 : UInt64))), .second, .val (.long (p1 <<< ((1 : Int32).toInt64 &&& 63))), .second, .val (.long (p1 <<< ((1 : Int32).toInt64 &&& 63))), .second] [(.long (p1 <<< ((1 : Int32).toInt64 &&& 63))), (.long (p1 <<< ((1 : Int32).toInt64 &&& 63)))])) (fun t kt => XT.lload X10.here hx rfl (hb hby at_116) rfl kt) ?_
        refine Go.st (S' := T10.setTop (mkF m 119 #[.val (.int p0), .val (.long p1), .second, .val (.int p2), .val (.int ((p0 &&& (2147483647 : Int32)) % (3 : Int32))), .val (.int ((p2 &&& (2147483647 : Int32)) % (101 : Int32))), .val (.ref a2), .val (.double (FP.ddiv (FP.i2d ((p2 &&& (2147483647 : Int32)) % (101 : Int32))) (4636737291354636288 : UInt64))), .second, .val (.long (p1 <<< ((1 : Int32).toInt64 &&& 63))), .second, .val (.long (p1 <<< ((1 : Int32).toInt64 &&& 63))), .second] [(.int (XT.cmpL (p1 <<< ((1 : Int32).toInt64 &&& 63)) (p1 <<< ((1 : Int32).toInt64 &&& 63))))])) (fun t kt => XT.lcmp X10.here hx rfl (hb hby at_118) rfl kt) ?_
        refine Go.st (S' := T10.setTop (mkF m 122 #[.val (.int p0), .val (.long p1), .second, .val (.int p2), .val (.int ((p0 &&& (2147483647 : Int32)) % (3 : Int32))), .val (.int ((p2 &&& (2147483647 : Int32)) % (101 : Int32))), .val (.ref a2), .val (.double (FP.ddiv (FP.i2d ((p2 &&& (2147483647 : Int32)) % (101 : Int32))) (4636737291354636288 : UInt64))), .second, .val (.long (p1 <<< ((1 : Int32).toInt64 &&& 63))), .second, .val (.long (p1 <<< ((1 : Int32).toInt64 &&& 63))), .second] [])) (fun t kt => XS.ifNo X10.here hx rfl (hb hby at_119) rfl (XT.ll_ne_f rfl) kt) ?_
        refine Go.st (S' := T10.setTop (mkF m 123 #[.val (.int p0), .val (.long p1), .second, .val (.int p2), .val (.int ((p0 &&& (2147483647 : Int32)) % (3 : Int32))), .val (.int ((p2 &&& (2147483647 : Int32)) % (101 : Int32))), .val (.ref a2), .val (.double (FP.ddiv (FP.i2d ((p2 &&& (2147483647 : Int32)) % (101 : Int32))) (4636737291354636288 : UInt64))), .second, .val (.long (p1 <<< ((1 : Int32).toInt64 &&& 63))), .second, .val (.long (p1 <<< ((1 : Int32).toInt64 &&& 63))), .second] [(.int (1 : Int32))])) (fun t kt => XS.iconst X10.here hx rfl (hb hby at_122) kt) ?_
        refine Go.st (S' := T10.setTop (mkF m 127 #[.val (.int p0), .val (.long p1), .second, .val (.int p2), .val (.int ((p0 &&& (2147483647 : Int32)) % (3 : Int32))), .val (.int ((p2 &&& (2147483647 : Int32)) % (101 : Int32))), .val (.ref a2), .val (.double (FP.ddiv (FP.i2d ((p2 &&& (2147483647 : Int32)) % (101 : Int32))) (4636737291354636288 : UInt64))), .second, .val (.long (p1 <<< ((1 : Int32).toInt64 &&& 63))), .second, .val (.long (p1 <<< ((1 : Int32).toInt64 &&& 63))), .second] [(.int (1 : Int32))])) (fun t kt => XS.goto X10.here hx rfl (pc0 := 123) (pc' := 127) rfl (hb hby at_123) (by decide) (by decide) kt) ?_
        exact ret_b X10 hx hlk hret (hb hby at_127) (by decide) (by decide) (⟨rfl, N10⟩)
    · refine Go.st (S' := T.setTop (mkF m 44 #[.val (.int p0), .val (.long p1), .second, .val (.int p2), .val (.int ((p0 &&& (2147483647 : Int32)) % (3 : Int32))), .val (.int ((p2 &&& (2147483647 : Int32)) % (101 : Int32))), .unset, .unset, .unset, .unset, .unset, .unset, .unset] [])) (fun t kt => XS.icmpYes X.here hx rfl (pc0 := 33) (pc' := 44) rfl (hb hby at_33) rfl (XT.ii_ne_t hc33_6) (by decide) (by decide) kt) ?_
      obtain ⟨T11, X11, e11, st11⟩ := getS X hx hZ (host := "") hown (hw _ (List.mem_of_getElem? (i := 16) rfl)) Via.refl eT S_a3 (g := (mkF m 44 #[.val (.int p0), .val (.long p1), .second, .val (.int p2), .val (.int ((p0 &&& (2147483647 : Int32)) % (3 : Int32))), .val (.int ((p2 &&& (2147483647 : Int32)) % (101 : Int32))), .unset, .unset, .unset, .unset, .unset, .unset, .unset] [])) rfl (hb hby at_44)
      refine Go.st (S' := T11.setTop (mkF m 47 #[.val (.int p0), .val (.long p1), .second, .val (.int p2), .val (.int ((p0 &&& (2147483647 : Int32)) % (3 : Int32))), .val (.int ((p2 &&& (2147483647 : Int32)) % (101 : Int32))), .unset, .unset, .unset, .unset, .unset, .unset, .unset] [(.ref a3)])) (fun t kt => st11 t kt) ?_
      refine Go.st (S' := T11.setTop (mkF m 49 #[.val (.int p0), .val (.long p1), .second, .val (.int p2), .val (.int ((p0 &&& (2147483647 : Int32)) % (3 : Int32))), .val (.int ((p2 &&& (2147483647 : Int32)) % (101 : Int32))), .val (.ref a3), .unset, .unset, .unset, .unset, .unset, .unset] [])) (fun t kt => XS.astore X11.here hx rfl (hb hby at_47) rfl rfl rfl kt) ?_
      refine Go.st (S' := T11.setTop (mkF m 51 #[.val (.int p0), .val (.long p1), .second, .val (.int p2), .val (.int ((p0 &&& (2147483647 : Int32)) % (3 : Int32))), .val (.int ((p2 &&& (2147483647 : Int32)) % (101 : Int32))), .val (.ref a3), .unset, .unset, .unset, .unset, .unset, .unset] [(.int ((p2 &&& (2147483647 : Int32)) % (101 : Int32)))])) (fun t kt => XS.iload X11.here hx rfl (hb hby at_49) rfl kt) ?_
      refine Go.st (S' := T11.setTop (mkF m 52 #[.val (.int p0), .val (.long p1), .second, .val (.int p2), .val (.int ((p0 &&& (2147483647 : Int32)) % (3 : Int32))), .val (.int ((p2 &&& (2147483647 : Int32)) % (101 : Int32))), .val (.ref a3), .unset, .unset, .unset, .unset, .unset, .unset] [(.double (FP.i2d ((p2 &&& (2147483647 : Int32)) % (101 : Int32))))])) (fun t kt => XS.i2dS X11.here hx rfl (hb hby at_51) rfl rfl kt) ?_
      refine Go.st (S' := T11.setTop (mkF m 55 #[.val (.int p0), .val (.long p1), .second, .val (.int p2), .val (.int ((p0 &&& (2147483647 : Int32)) % (3 : Int32))), .val (.int ((p2 &&& (2147483647 : Int32)) % (101 : Int32))), .val (.ref a3), .unset, .unset, .unset, .unset, .unset, .unset] [(.double (4636737291354636288 : UInt64)), (.double (FP.i2d ((p2 &&& (2147483647 : Int32)) % (101 : Int32))))])) (fun t kt => X11.ldc2DoubleC hx hown (mv hZ (hw _ (List.mem_of_getElem? (i := 4) rfl))) (g := (mkF m 52 #[.val (.int p0), .val (.long p1), .second, .val (.int p2), .val (.int ((p0 &&& (2147483647 : Int32)) % (3 : Int32))), .val (.int ((p2 &&& (2147483647 : Int32)) % (101 : Int32))), .val (.ref a3), .unset, .unset, .unset, .unset, .unset, .unset] [(.double (FP.i2d ((p2 &&& (2147483647 : Int32)) % (101 : Int32))))])) rfl (hb hby at_52) t kt) ?_
      refine Go.st (S' := T11.setTop (mkF m 56 #[.val (.int p0), .val (.long p1), .second, .val (.int p2), .val (.int ((p0 &&& (2147483647 : Int32)) % (3 : Int32))), .val (.int ((p2 &&& (2147483647 : Int32)) % (101 : Int32))), .val (.ref a3), .unset, .unset, .unset, .unset, .unset, .unset] [(.double (FP.ddiv (FP.i2d ((p2 &&& (2147483647 : Int32)) % (101 : Int32))) (4636737291354636288 : UInt64)))])) (fun t kt => XS.ddivS X11.here hx rfl (hb hby at_55) rfl (own_nn _) rfl kt) ?_
      refine Go.st (S' := T11.setTop (mkF m 58 #[.val (.int p0), .val (.long p1), .second, .val (.int p2), .val (.int ((p0 &&& (2147483647 : Int32)) % (3 : Int32))), .val (.int ((p2 &&& (2147483647 : Int32)) % (101 : Int32))), .val (.ref a3), .val (.double (FP.ddiv (FP.i2d ((p2 &&& (2147483647 : Int32)) % (101 : Int32))) (4636737291354636288 : UInt64))), .second, .unset, .unset, .unset, .unset] [])) (fun t kt => XS.dstore X11.here hx rfl (hb hby at_56) rfl rfl kt) ?_
      refine Go.st (S' := T11.setTop (mkF m 60 #[.val (.int p0), .val (.long p1), .second, .val (.int p2), .val (.int ((p0 &&& (2147483647 : Int32)) % (3 : Int32))), .val (.int ((p2 &&& (2147483647 : Int32)) % (101 : Int32))), .val (.ref a3), .val (.double (FP.ddiv (FP.i2d ((p2 &&& (2147483647 : Int32)) % (101 : Int32))) (4636737291354636288 : UInt64))), .second, .unset, .unset, .unset, .unset] [(.int ((p0 &&& (2147483647 : Int32)) % (3 : Int32)))])) (fun t kt => XS.iload X11.here hx rfl (hb hby at_58) rfl kt) ?_
      refine Go.st (S' := T11.setTop (mkF m 71 #[.val (.int p0), .val (.long p1), .second, .val (.int p2), .val (.int ((p0 &&& (2147483647 : Int32)) % (3 : Int32))), .val (.int ((p2 &&& (2147483647 : Int32)) % (101 : Int32))), .val (.ref a3), .val (.double (FP.ddiv (FP.i2d ((p2 &&& (2147483647 : Int32)) % (101 : Int32))) (4636737291354636288 : UInt64))), .second, .unset, .unset, .unset, .unset] [])) (fun t kt => XS.ifYes X11.here hx rfl (pc0 := 60) (pc' := 71) rfl (hb hby at_60) rfl (XT.i0_ne_t hc19_1) (by decide) (by decide) kt) ?_
      refine Go.st (S' := T11.setTop (mkF m 73 #[.val (.int p0), .val (.long p1), .second, .val (.int p2), .val (.int ((p0 &&& (2147483647 : Int32)) % (3 : Int32))), .val (.int ((p2 &&& (2147483647 : Int32)) % (101 : Int32))), .val (.ref a3), .val (.double (FP.ddiv (FP.i2d ((p2 &&& (2147483647 : Int32)) % (101 : Int32))) (4636737291354636288 : UInt64))), .second, .unset, .unset, .unset, .unset] [(.int ((p0 &&& (2147483647 : Int32)) % (3 : Int32)))])) (fun t kt => XS.iload X11.here hx rfl (hb hby at_71) rfl kt) ?_
      refine Go.st (S' := T11.setTop (mkF m 74 #[.val (.int p0), .val (.long p1), .second, .val (.int p2), .val (.int ((p0 &&& (2147483647 : Int32)) % (3 : Int32))), .val (.int ((p2 &&& (2147483647 : Int32)) % (101 : Int32))), .val (.ref a3), .val (.double (FP.ddiv (FP.i2d ((p2 &&& (2147483647 : Int32)) % (101 : Int32))) (4636737291354636288 : UInt64))), .second, .unset, .unset, .unset, .unset] [(.int (1 : Int32)), (.int ((p0 &&& (2147483647 : Int32)) % (3 : Int32)))])) (fun t kt => XS.iconst X11.here hx rfl (hb hby at_73) kt) ?_
      refine Go.st (S' := T11.setTop (mkF m 85 #[.val (.int p0), .val (.long p1), .second, .val (.int p2), .val (.int ((p0 &&& (2147483647 : Int32)) % (3 : Int32))), .val (.int ((p2 &&& (2147483647 : Int32)) % (101 : Int32))), .val (.ref a3), .val (.double (FP.ddiv (FP.i2d ((p2 &&& (2147483647 : Int32)) % (101 : Int32))) (4636737291354636288 : UInt64))), .second, .unset, .unset, .unset, .unset] [])) (fun t kt => XS.icmpYes X11.here hx rfl (pc0 := 74) (pc' := 85) rfl (hb hby at_74) rfl (XT.ii_ne_t hc33_6) (by decide) (by decide) kt) ?_
      refine Go.st (S' := T11.setTop (mkF m 86 #[.val (.int p0), .val (.long p1), .second, .val (.int p2), .val (.int ((p0 &&& (2147483647 : Int32)) % (3 : Int32))), .val (.int ((p2 &&& (2147483647 : Int32)) % (101 : Int32))), .val (.ref a3), .val (.double (FP.ddiv (FP.i2d ((p2 &&& (2147483647 : Int32)) % (101 : Int32))) (4636737291354636288 : UInt64))), .second, .unset, .unset, .unset, .unset] [(.long (0 : Int64))])) (fun t kt => XT.lconstV X11.here hx rfl (0 : Int64) (hb hby at_85) (by decide) kt) ?_
      refine Go.st (S' := T11.setTop (mkF m 88 #[.val (.int p0), .val (.long p1), .second, .val (.int p2), .val (.int ((p0 &&& (2147483647 : Int32)) % (3 : Int32))), .val (.int ((p2 &&& (2147483647 : Int32)) % (101 : Int32))), .val (.ref a3), .val (.double (FP.ddiv (FP.i2d ((p2 &&& (2147483647 : Int32)) % (101 : Int32))) (4636737291354636288 : UInt64))), .second, .val (.long (0 : Int64)), .second, .unset, .unset] [])) (fun t kt => XT.lstore X11.here hx rfl (hb hby at_86) rfl rfl kt) ?_
      refine Go.st (S' := T11.setTop (mkF m 90 #[.val (.int p0), .val (.long p1), .second, .val (.int p2), .val (.int ((p0 &&& (2147483647 : Int32)) % (3 : Int32))), .val (.int ((p2 &&& (2147483647 : Int32)) % (101 : Int32))), .val (.ref a3), .val (.double (FP.ddiv (FP.i2d ((p2 &&& (2147483647 : Int32)) % (101 : Int32))) (4636737291354636288 : UInt64))), .second, .val (.long (0 : Int64)), .second, .unset, .unset] [(.int ((p2 &&& (2147483647 : Int32)) % (101 : Int32)))])) (fun t kt => XS.iload X11.here hx rfl (hb hby at_88) rfl kt) ?_
      refine Go.st (S' := T11.setTop (mkF m 92 #[.val (.int p0), .val (.long p1), .second, .val (.int p2), .val (.int ((p0 &&& (2147483647 : Int32)) % (3 : Int32))), .val (.int ((p2 &&& (2147483647 : Int32)) % (101 : Int32))), .val (.ref a3), .val (.double (FP.ddiv (FP.i2d ((p2 &&& (2147483647 : Int32)) % (101 : Int32))) (4636737291354636288 : UInt64))), .second, .val (.long (0 : Int64)), .second, .unset, .unset] [(.int (70 : Int32)), (.int ((p2 &&& (2147483647 : Int32)) % (101 : Int32)))])) (fun t kt => XT.bipushV X11.here hx rfl (70 : Int32) (hb hby at_90) (by decide) kt) ?_
      by_cases hc92_12 : ((p2 &&& (2147483647 : Int32)) % (101 : Int32)) < (70 : Int32)
      · refine Go.st (S' := T11.setTop (mkF m 95 #[.val (.int p0), .val (.long p1), .second, .val (.int p2), .val (.int ((p0 &&& (2147483647 : Int32)) % (3 : Int32))), .val (.int ((p2 &&& (2147483647 : Int32)) % (101 : Int32))), .val (.ref a3), .val (.double (FP.ddiv (FP.i2d ((p2 &&& (2147483647 : Int32)) % (101 : Int32))) (4636737291354636288 : UInt64))), .second, .val (.long (0 : Int64)), .second, .unset, .unset] [])) (fun t kt => XS.icmpNo X11.here hx rfl (hb hby at_92) rfl (XT.ii_ge_f hc92_12) kt) ?_
        refine Go.st (S' := T11.setTop (mkF m 97 #[.val (.int p0), .val (.long p1), .second, .val (.int p2), .val (.int ((p0 &&& (2147483647 : Int32)) % (3 : Int32))), .val (.int ((p2 &&& (2147483647 : Int32)) % (101 : Int32))), .val (.ref a3), .val (.double (FP.ddiv (FP.i2d ((p2 &&& (2147483647 : Int32)) % (101 : Int32))) (4636737291354636288 : UInt64))), .second, .val (.long (0 : Int64)), .second, .unset, .unset] [(.long (0 : Int64))])) (fun t kt => XT.lload X11.here hx rfl (hb hby at_95) rfl kt) ?_
        refine Go.st (S' := T11.setTop (mkF m 98 #[.val (.int p0), .val (.long p1), .second, .val (.int p2), .val (.int ((p0 &&& (2147483647 : Int32)) % (3 : Int32))), .val (.int ((p2 &&& (2147483647 : Int32)) % (101 : Int32))), .val (.ref a3), .val (.double (FP.ddiv (FP.i2d ((p2 &&& (2147483647 : Int32)) % (101 : Int32))) (4636737291354636288 : UInt64))), .second, .val (.long (0 : Int64)), .second, .unset, .unset] [(.int (1 : Int32)), (.long (0 : Int64))])) (fun t kt => XS.iconst X11.here hx rfl (hb hby at_97) kt) ?_
        refine Go.st (S' := T11.setTop (mkF m 99 #[.val (.int p0), .val (.long p1), .second, .val (.int p2), .val (.int ((p0 &&& (2147483647 : Int32)) % (3 : Int32))), .val (.int ((p2 &&& (2147483647 : Int32)) % (101 : Int32))), .val (.ref a3), .val (.double (FP.ddiv (FP.i2d ((p2 &&& (2147483647 : Int32)) % (101 : Int32))) (4636737291354636288 : UInt64))), .second, .val (.long (0 : Int64)), .second, .unset, .unset] [(.long ((0 : Int64) <<< ((1 : Int32).toInt64 &&& 63)))])) (fun t kt => XT.lshl X11.here hx rfl (hb hby at_98) rfl kt) ?_
        refine Go.st (S' := T11.setTop (mkF m 101 #[.val (.int p0), .val (.long p1), .second, .val (.int p2), .val (.int ((p0 &&& (2147483647 : Int32)) % (3 : Int32))), .val (.int ((p2 &&& (2147483647 : Int32)) % (101 : Int32))), .val (.ref a3), .val (.double (FP.ddiv (FP.i2d ((p2 &&& (2147483647 : Int32)) % (101 : Int32))) (4636737291354636288 : UInt64))), .second, .val (.long (0 : Int64)), .second, .val (.long ((0 : Int64) <<< ((1 : Int32).toInt64 &&& 63))), .second] [])) (fun t kt => XT.lstore X11.here hx rfl (hb hby at_99) rfl rfl kt) ?_
        refine Go.st (S' := T11.setTop (mkF m 108 #[.val (.int p0), .val (.long p1), .second, .val (.int p2), .val (.int ((p0 &&& (2147483647 : Int32)) % (3 : Int32))), .val (.int ((p2 &&& (2147483647 : Int32)) % (101 : Int32))), .val (.ref a3), .val (.double (FP.ddiv (FP.i2d ((p2 &&& (2147483647 : Int32)) % (101 : Int32))) (4636737291354636288 : UInt64))), .second, .val (.long (0 : Int64)), .second, .val (.long ((0 : Int64) <<< ((1 : Int32).toInt64 &&& 63))), .second] [])) (fun t kt => XS.goto X11.here hx rfl (pc0 := 101) (pc' := 108) rfl (hb hby at_101) (by decide) (by decide) kt) ?_
        refine Go.st (S' := T11.setTop (mkF m 110 #[.val (.int p0), .val (.long p1), .second, .val (.int p2), .val (.int ((p0 &&& (2147483647 : Int32)) % (3 : Int32))), .val (.int ((p2 &&& (2147483647 : Int32)) % (101 : Int32))), .val (.ref a3), .val (.double (FP.ddiv (FP.i2d ((p2 &&& (2147483647 : Int32)) % (101 : Int32))) (4636737291354636288 : UInt64))), .second, .val (.long (0 : Int64)), .second, .val (.long ((0 : Int64) <<< ((1 : Int32).toInt64 &&& 63))), .second] [(.ref a3)])) (fun t kt => XS.aload X11.here hx rfl (hb hby at_108) rfl rfl kt) ?_
        refine Go.st (S' := T11.setTop (mkF m 111 #[.val (.int p0), .val (.long p1), .second, .val (.int p2), .val (.int ((p0 &&& (2147483647 : Int32)) % (3 : Int32))), .val (.int ((p2 &&& (2147483647 : Int32)) % (101 : Int32))), .val (.ref a3), .val (.double (FP.ddiv (FP.i2d ((p2 &&& (2147483647 : Int32)) % (101 : Int32))) (4636737291354636288 : UInt64))), .second, .val (.long (0 : Int64)), .second, .val (.long ((0 : Int64) <<< ((1 : Int32).toInt64 &&& 63))), .second] [(.long p1), (.ref a3)])) (fun t kt => XT.lloadN X11.here hx rfl (hb hby at_110) rfl kt) ?_
        refine Go.st (S' := T11.setTop (mkF m 113 #[.val (.int p0), .val (.long p1), .second, .val (.int p2), .val (.int ((p0 &&& (2147483647 : Int32)) % (3 : Int32))), .val (.int ((p2 &&& (2147483647 : Int32)) % (101 : Int32))), .val (.ref a3), .val (.double (FP.ddiv (FP.i2d ((p2 &&& (2147483647 : Int32)) % (101 : Int32))) (4636737291354636288 : UInt64))), .second, .val (.long (0 : Int64)), .second, .val (.long ((0 : Int64) <<< ((1 : Int32).toInt64 &&& 63))), .second] [(.double (FP.ddiv (FP.i2d ((p2 &&& (2147483647 : Int32)) % (101 : Int32))) (4636737291354636288 : UInt64))), (.long p1), (.ref a3)])) (fun t kt => XS.dload X11.here hx rfl (hb hby at_111) rfl kt) ?_
        refine Go.virt X11 hx hZ hown (hw _ (List.mem_of_getElem? (i := 5) rfl)) (hw _ (List.mem_of_getElem? (i := 6) rfl)) (notFace_of_selects (mvT (args := #[]) hZ (hw _ (List.mem_of_getElem? (i := 8) rfl)))) (hw _ (List.mem_of_getElem? (i := 8) rfl)) (hw _ (List.mem_of_getElem? (i := 7) rfl)) (hw _ (List.mem_of_getElem? (i := 9) rfl)) (hw _ (List.mem_of_getElem? (i := 2) rfl)) (by decide) (b := a3) (argsL := [(.long p1), (.double (FP.ddiv (FP.i2d ((p2 &&& (2147483647 : Int32)) % (101 : Int32))) (4636737291354636288 : UInt64)))]) (rest := []) (rm1 l Z a0 hw a3 p1 ((0 : Int64) <<< ((1 : Int32).toInt64 &&& 63)) (FP.ddiv (FP.i2d ((p2 &&& (2147483647 : Int32)) % (101 : Int32))) (4636737291354636288 : UInt64)) (0 : Int32) h0 n0 Z0 F_a3 (by rw [if_pos ((own_ratio p2).mpr hc92_12), own_d, ← own_b2 p1])) e11 E_a3 rfl (by rw [hml]; rfl) pd__JD_J rfl (hb hby at_113) 0 (Nat.le_refl _) (by decide) (by decide) (by decide) (by decide) ?_
        intro v13 T13 L13 X13 hQ13
        obtain ⟨hv13, N13', e13⟩ := hQ13
        subst hv13
        have N13 := Fr.app N0 N13'
        show Go pP eE below _ (T13.setTop (mkF m 116 #[.val (.int p0), .val (.long p1), .second, .val (.int p2), .val (.int ((p0 &&& (2147483647 : Int32)) % (3 : Int32))), .val (.int ((p2 &&& (2147483647 : Int32)) % (101 : Int32))), .val (.ref a3), .val (.double (FP.ddiv (FP.i2d ((p2 &&& (2147483647 : Int32)) % (101 : Int32))) (4636737291354636288 : UInt64))), .second, .val (.long (0 : Int64)), .second, .val (.long ((0 : Int64) <<< ((1 : Int32).toInt64 &&& 63))), .second] [(.long ((0 : Int64) <<< ((1 : Int32).toInt64 &&& 63)))]))
        refine Go.st (S' := T13.setTop (mkF m 118 #[.val (.int p0), .val (.long p1), .second, .val (.int p2), .val (.int ((p0 &&& (2147483647 : Int32)) % (3 : Int32))), .val (.int ((p2 &&& (2147483647 : Int32)) % (101 : Int32))), .val (.ref a3), .val (.double (FP.ddiv (FP.i2d ((p2 &&& (2147483647 : Int32)) % (101 : Int32))) (4636737291354636288 : UInt64))), .second, .val (.long (0 : Int64)), .second, .val (.long ((0 : Int64) <<< ((1 : Int32).toInt64 &&& 63))), .second] [(.long ((0 : Int64) <<< ((1 : Int32).toInt64 &&& 63))), (.long ((0 : Int64) <<< ((1 : Int32).toInt64 &&& 63)))])) (fun t kt => XT.lload X13.here hx rfl (hb hby at_116) rfl kt) ?_
        refine Go.st (S' := T13.setTop (mkF m 119 #[.val (.int p0), .val (.long p1), .second, .val (.int p2), .val (.int ((p0 &&& (2147483647 : Int32)) % (3 : Int32))), .val (.int ((p2 &&& (2147483647 : Int32)) % (101 : Int32))), .val (.ref a3), .val (.double (FP.ddiv (FP.i2d ((p2 &&& (2147483647 : Int32)) % (101 : Int32))) (4636737291354636288 : UInt64))), .second, .val (.long (0 : Int64)), .second, .val (.long ((0 : Int64) <<< ((1 : Int32).toInt64 &&& 63))), .second] [(.int (XT.cmpL ((0 : Int64) <<< ((1 : Int32).toInt64 &&& 63)) ((0 : Int64) <<< ((1 : Int32).toInt64 &&& 63))))])) (fun t kt => XT.lcmp X13.here hx rfl (hb hby at_118) rfl kt) ?_
        refine Go.st (S' := T13.setTop (mkF m 122 #[.val (.int p0), .val (.long p1), .second, .val (.int p2), .val (.int ((p0 &&& (2147483647 : Int32)) % (3 : Int32))), .val (.int ((p2 &&& (2147483647 : Int32)) % (101 : Int32))), .val (.ref a3), .val (.double (FP.ddiv (FP.i2d ((p2 &&& (2147483647 : Int32)) % (101 : Int32))) (4636737291354636288 : UInt64))), .second, .val (.long (0 : Int64)), .second, .val (.long ((0 : Int64) <<< ((1 : Int32).toInt64 &&& 63))), .second] [])) (fun t kt => XS.ifNo X13.here hx rfl (hb hby at_119) rfl (XT.ll_ne_f rfl) kt) ?_
        refine Go.st (S' := T13.setTop (mkF m 123 #[.val (.int p0), .val (.long p1), .second, .val (.int p2), .val (.int ((p0 &&& (2147483647 : Int32)) % (3 : Int32))), .val (.int ((p2 &&& (2147483647 : Int32)) % (101 : Int32))), .val (.ref a3), .val (.double (FP.ddiv (FP.i2d ((p2 &&& (2147483647 : Int32)) % (101 : Int32))) (4636737291354636288 : UInt64))), .second, .val (.long (0 : Int64)), .second, .val (.long ((0 : Int64) <<< ((1 : Int32).toInt64 &&& 63))), .second] [(.int (1 : Int32))])) (fun t kt => XS.iconst X13.here hx rfl (hb hby at_122) kt) ?_
        refine Go.st (S' := T13.setTop (mkF m 127 #[.val (.int p0), .val (.long p1), .second, .val (.int p2), .val (.int ((p0 &&& (2147483647 : Int32)) % (3 : Int32))), .val (.int ((p2 &&& (2147483647 : Int32)) % (101 : Int32))), .val (.ref a3), .val (.double (FP.ddiv (FP.i2d ((p2 &&& (2147483647 : Int32)) % (101 : Int32))) (4636737291354636288 : UInt64))), .second, .val (.long (0 : Int64)), .second, .val (.long ((0 : Int64) <<< ((1 : Int32).toInt64 &&& 63))), .second] [(.int (1 : Int32))])) (fun t kt => XS.goto X13.here hx rfl (pc0 := 123) (pc' := 127) rfl (hb hby at_123) (by decide) (by decide) kt) ?_
        exact ret_b X13 hx hlk hret (hb hby at_127) (by decide) (by decide) (⟨rfl, N13⟩)
      · refine Go.st (S' := T11.setTop (mkF m 104 #[.val (.int p0), .val (.long p1), .second, .val (.int p2), .val (.int ((p0 &&& (2147483647 : Int32)) % (3 : Int32))), .val (.int ((p2 &&& (2147483647 : Int32)) % (101 : Int32))), .val (.ref a3), .val (.double (FP.ddiv (FP.i2d ((p2 &&& (2147483647 : Int32)) % (101 : Int32))) (4636737291354636288 : UInt64))), .second, .val (.long (0 : Int64)), .second, .unset, .unset] [])) (fun t kt => XS.icmpYes X11.here hx rfl (pc0 := 92) (pc' := 104) rfl (hb hby at_92) rfl (XT.ii_ge_t hc92_12) (by decide) (by decide) kt) ?_
        refine Go.st (S' := T11.setTop (mkF m 106 #[.val (.int p0), .val (.long p1), .second, .val (.int p2), .val (.int ((p0 &&& (2147483647 : Int32)) % (3 : Int32))), .val (.int ((p2 &&& (2147483647 : Int32)) % (101 : Int32))), .val (.ref a3), .val (.double (FP.ddiv (FP.i2d ((p2 &&& (2147483647 : Int32)) % (101 : Int32))) (4636737291354636288 : UInt64))), .second, .val (.long (0 : Int64)), .second, .unset, .unset] [(.long (0 : Int64))])) (fun t kt => XT.lload X11.here hx rfl (hb hby at_104) rfl kt) ?_
        refine Go.st (S' := T11.setTop (mkF m 108 #[.val (.int p0), .val (.long p1), .second, .val (.int p2), .val (.int ((p0 &&& (2147483647 : Int32)) % (3 : Int32))), .val (.int ((p2 &&& (2147483647 : Int32)) % (101 : Int32))), .val (.ref a3), .val (.double (FP.ddiv (FP.i2d ((p2 &&& (2147483647 : Int32)) % (101 : Int32))) (4636737291354636288 : UInt64))), .second, .val (.long (0 : Int64)), .second, .val (.long (0 : Int64)), .second] [])) (fun t kt => XT.lstore X11.here hx rfl (hb hby at_106) rfl rfl kt) ?_
        refine Go.st (S' := T11.setTop (mkF m 110 #[.val (.int p0), .val (.long p1), .second, .val (.int p2), .val (.int ((p0 &&& (2147483647 : Int32)) % (3 : Int32))), .val (.int ((p2 &&& (2147483647 : Int32)) % (101 : Int32))), .val (.ref a3), .val (.double (FP.ddiv (FP.i2d ((p2 &&& (2147483647 : Int32)) % (101 : Int32))) (4636737291354636288 : UInt64))), .second, .val (.long (0 : Int64)), .second, .val (.long (0 : Int64)), .second] [(.ref a3)])) (fun t kt => XS.aload X11.here hx rfl (hb hby at_108) rfl rfl kt) ?_
        refine Go.st (S' := T11.setTop (mkF m 111 #[.val (.int p0), .val (.long p1), .second, .val (.int p2), .val (.int ((p0 &&& (2147483647 : Int32)) % (3 : Int32))), .val (.int ((p2 &&& (2147483647 : Int32)) % (101 : Int32))), .val (.ref a3), .val (.double (FP.ddiv (FP.i2d ((p2 &&& (2147483647 : Int32)) % (101 : Int32))) (4636737291354636288 : UInt64))), .second, .val (.long (0 : Int64)), .second, .val (.long (0 : Int64)), .second] [(.long p1), (.ref a3)])) (fun t kt => XT.lloadN X11.here hx rfl (hb hby at_110) rfl kt) ?_
        refine Go.st (S' := T11.setTop (mkF m 113 #[.val (.int p0), .val (.long p1), .second, .val (.int p2), .val (.int ((p0 &&& (2147483647 : Int32)) % (3 : Int32))), .val (.int ((p2 &&& (2147483647 : Int32)) % (101 : Int32))), .val (.ref a3), .val (.double (FP.ddiv (FP.i2d ((p2 &&& (2147483647 : Int32)) % (101 : Int32))) (4636737291354636288 : UInt64))), .second, .val (.long (0 : Int64)), .second, .val (.long (0 : Int64)), .second] [(.double (FP.ddiv (FP.i2d ((p2 &&& (2147483647 : Int32)) % (101 : Int32))) (4636737291354636288 : UInt64))), (.long p1), (.ref a3)])) (fun t kt => XS.dload X11.here hx rfl (hb hby at_111) rfl kt) ?_
        refine Go.virt X11 hx hZ hown (hw _ (List.mem_of_getElem? (i := 5) rfl)) (hw _ (List.mem_of_getElem? (i := 6) rfl)) (notFace_of_selects (mvT (args := #[]) hZ (hw _ (List.mem_of_getElem? (i := 8) rfl)))) (hw _ (List.mem_of_getElem? (i := 8) rfl)) (hw _ (List.mem_of_getElem? (i := 7) rfl)) (hw _ (List.mem_of_getElem? (i := 9) rfl)) (hw _ (List.mem_of_getElem? (i := 2) rfl)) (by decide) (b := a3) (argsL := [(.long p1), (.double (FP.ddiv (FP.i2d ((p2 &&& (2147483647 : Int32)) % (101 : Int32))) (4636737291354636288 : UInt64)))]) (rest := []) (rm1 l Z a0 hw a3 p1 (0 : Int64) (FP.ddiv (FP.i2d ((p2 &&& (2147483647 : Int32)) % (101 : Int32))) (4636737291354636288 : UInt64)) (0 : Int32) h0 n0 Z0 F_a3 (by rw [if_neg (fun z => hc92_12 ((own_ratio p2).mp z)), ← own_b2 p1])) e11 E_a3 rfl (by rw [hml]; rfl) pd__JD_J rfl (hb hby at_113) 0 (Nat.le_refl _) (by decide) (by decide) (by decide) (by decide) ?_
        intro v14 T14 L14 X14 hQ14
        obtain ⟨hv14, N14', e14⟩ := hQ14
        subst hv14
        have N14 := Fr.app N0 N14'
        show Go pP eE below _ (T14.setTop (mkF m 116 #[.val (.int p0), .val (.long p1), .second, .val (.int p2), .val (.int ((p0 &&& (2147483647 : Int32)) % (3 : Int32))), .val (.int ((p2 &&& (2147483647 : Int32)) % (101 : Int32))), .val (.ref a3), .val (.double (FP.ddiv (FP.i2d ((p2 &&& (2147483647 : Int32)) % (101 : Int32))) (4636737291354636288 : UInt64))), .second, .val (.long (0 : Int64)), .second, .val (.long (0 : Int64)), .second] [(.long (0 : Int64))]))
        refine Go.st (S' := T14.setTop (mkF m 118 #[.val (.int p0), .val (.long p1), .second, .val (.int p2), .val (.int ((p0 &&& (2147483647 : Int32)) % (3 : Int32))), .val (.int ((p2 &&& (2147483647 : Int32)) % (101 : Int32))), .val (.ref a3), .val (.double (FP.ddiv (FP.i2d ((p2 &&& (2147483647 : Int32)) % (101 : Int32))) (4636737291354636288 : UInt64))), .second, .val (.long (0 : Int64)), .second, .val (.long (0 : Int64)), .second] [(.long (0 : Int64)), (.long (0 : Int64))])) (fun t kt => XT.lload X14.here hx rfl (hb hby at_116) rfl kt) ?_
        refine Go.st (S' := T14.setTop (mkF m 119 #[.val (.int p0), .val (.long p1), .second, .val (.int p2), .val (.int ((p0 &&& (2147483647 : Int32)) % (3 : Int32))), .val (.int ((p2 &&& (2147483647 : Int32)) % (101 : Int32))), .val (.ref a3), .val (.double (FP.ddiv (FP.i2d ((p2 &&& (2147483647 : Int32)) % (101 : Int32))) (4636737291354636288 : UInt64))), .second, .val (.long (0 : Int64)), .second, .val (.long (0 : Int64)), .second] [(.int (XT.cmpL (0 : Int64) (0 : Int64)))])) (fun t kt => XT.lcmp X14.here hx rfl (hb hby at_118) rfl kt) ?_
        refine Go.st (S' := T14.setTop (mkF m 122 #[.val (.int p0), .val (.long p1), .second, .val (.int p2), .val (.int ((p0 &&& (2147483647 : Int32)) % (3 : Int32))), .val (.int ((p2 &&& (2147483647 : Int32)) % (101 : Int32))), .val (.ref a3), .val (.double (FP.ddiv (FP.i2d ((p2 &&& (2147483647 : Int32)) % (101 : Int32))) (4636737291354636288 : UInt64))), .second, .val (.long (0 : Int64)), .second, .val (.long (0 : Int64)), .second] [])) (fun t kt => XS.ifNo X14.here hx rfl (hb hby at_119) rfl (XT.ll_ne_f (by decide)) kt) ?_
        refine Go.st (S' := T14.setTop (mkF m 123 #[.val (.int p0), .val (.long p1), .second, .val (.int p2), .val (.int ((p0 &&& (2147483647 : Int32)) % (3 : Int32))), .val (.int ((p2 &&& (2147483647 : Int32)) % (101 : Int32))), .val (.ref a3), .val (.double (FP.ddiv (FP.i2d ((p2 &&& (2147483647 : Int32)) % (101 : Int32))) (4636737291354636288 : UInt64))), .second, .val (.long (0 : Int64)), .second, .val (.long (0 : Int64)), .second] [(.int (1 : Int32))])) (fun t kt => XS.iconst X14.here hx rfl (hb hby at_122) kt) ?_
        refine Go.st (S' := T14.setTop (mkF m 127 #[.val (.int p0), .val (.long p1), .second, .val (.int p2), .val (.int ((p0 &&& (2147483647 : Int32)) % (3 : Int32))), .val (.int ((p2 &&& (2147483647 : Int32)) % (101 : Int32))), .val (.ref a3), .val (.double (FP.ddiv (FP.i2d ((p2 &&& (2147483647 : Int32)) % (101 : Int32))) (4636737291354636288 : UInt64))), .second, .val (.long (0 : Int64)), .second, .val (.long (0 : Int64)), .second] [(.int (1 : Int32))])) (fun t kt => XS.goto X14.here hx rfl (pc0 := 123) (pc' := 127) rfl (hb hby at_123) (by decide) (by decide) kt) ?_
        exact ret_b X14 hx hlk hret (hb hby at_127) (by decide) (by decide) (⟨rfl, N14⟩)
theorem own_fld_int {args : Array Value} {s : State} {t : Term} {a : Addr} {C n d : String} {k : Int32} (ht : t.eval args s none [] s = some (.ref a)) (h : (Jvm.Cond.eq (.field t C n d) (.int k)).value args s none s [] = some true) : s.fieldOf? a C n d = some (.int k) := by
  have q := eqv_i (Term.int_eval k) h
  rw [fld_at ht] at q
  exact q
set_option maxRecDepth 65536 in
set_option maxHeartbeats 40000000 in
theorem comes_1 {Post : Tables → Env → Array Value → State → Outcome → State → Prop} (hpost : ∀ tb e args s v u, (limb_1_1.after args s (.returned v) u = true ∧ limb_1_2.after args s (.returned v) u = true ∧ True) → FrameEnd s (.returned v) u (Jvm.fieldLocs frame_1_writes args s ++ Jvm.arrayLocs frame_1_arrays args s ++ Jvm.staticLocs frame_1_statics s) 0 0 → Post tb e args s (.returned v) u) :
    ArmFor flags0 classFile x code maxLocals ret World_1 tables_1 room_1 Calls_1 rest_1 Pre_1 Post := by
  intro l hfl _ _ p e ha hc hk s m args below hf hA hF happ hP
  obtain ⟨hcalls, hrest, hpre⟩ := hP
  obtain ⟨-, -, -, hnamed, -, hinit0, -, hat⟩ := (Spec.applies_iff hf).mp happ
  obtain ⟨hg, hn⟩ := and_e (Cond.before_iff.mp (show (Jvm.Cond.and given_1 narrow_1).before args s = true from hpre))
  obtain ⟨hcount, hgs⟩ := and_e hg
  obtain ⟨hg0, hgs⟩ := and_e hgs
  obtain ⟨hg1, hg2⟩ := and_e hgs
  obtain ⟨w0, w1, w2, rfl⟩ : ∃ w0 w1 w2 : Value, args = #[w0, w1, w2] := by
    have hs : args.size = 3 := by simpa [Cond.value, given_1] using hcount
    obtain ⟨L⟩ := args
    match L, hs with
    | [w0, w1, w2], _ => exact ⟨w0, w1, w2, rfl⟩
  have hw := fun d (hd : d ∈ tables_1) => atoms_spec (ws := Jvm.Cond.code x code maxLocals ret :: tables_1) hat d (List.mem_cons_of_mem _ hd)
  have hfit : Fit s := fun {y c} hc i hi => by
    obtain ⟨ha, rfl⟩ := Array.getElem?_eq_some_iff.mp hc
    have q := List.all_eq_true.mp ((Array.all_eq_true_iff_forall_mem.mp hF) _ (Array.getElem_mem ha)) i (List.mem_range.mpr hi)
    simpa [Array.getElem?_eq_getElem hi] using q
  obtain ⟨i0, ei0⟩ := is_v hg0
  obtain rfl : w0 = (.int i0) := Option.some.inj ei0
  obtain ⟨i1, ei1⟩ := isL_v hg1
  obtain rfl : w1 = (.long i1) := Option.some.inj ei1
  obtain ⟨i2, ei2⟩ := is_v hg2
  obtain rfl : w2 = (.int i2) := Option.some.inj ei2
  obtain ⟨n0, hn⟩ := and_e hn
  obtain ⟨n1, hn⟩ := and_e hn
  obtain ⟨n2, hn⟩ := and_e hn
  obtain ⟨n3, hn⟩ := and_e hn
  obtain ⟨n4, n5⟩ := and_e hn
  obtain ⟨a1, va1⟩ := exa_v n0
  have Sa1 := Sta.start va1 (Or.inr ⟨(hw _ (List.mem_of_getElem? (i := 2) rfl)), (hw _ (List.mem_of_getElem? (i := 3) rfl))⟩)
  have Ea1 := Exa.start va1 n0
  obtain ⟨a2, va2⟩ := exa_v n2
  have Sa2 := Sta.start va2 (Or.inr ⟨(hw _ (List.mem_of_getElem? (i := 2) rfl)), (hw _ (List.mem_of_getElem? (i := 15) rfl))⟩)
  have Ea2 := Exa.start va2 n2
  obtain ⟨a3, va3⟩ := exa_v n4
  have Sa3 := Sta.start va3 (Or.inr ⟨(hw _ (List.mem_of_getElem? (i := 2) rfl)), (hw _ (List.mem_of_getElem? (i := 17) rfl))⟩)
  have Ea3 := Exa.start va3 n4
  have Fa1_rowsPerRow := Fld.start (own_fld_int va1 n1)
  have Fa2_rowsPerRow := Fld.start (own_fld_int va2 n3)
  have Fa3_rowsPerRow := Fld.start (own_fld_int va3 n5)
  obtain ⟨n, o, h1, h2, h3, _, L, rfl, ⟨rfl, N⟩, hq⟩ := rm0 l s _ hw i0 i1 i2 s.heap s.heap.size (Nat.le_refl _) a1 a2 a3 Sa1 Ea1 Fa1_rowsPerRow Sa2 Ea2 Fa2_rowsPerRow Sa3 Ea3 Fa3_rowsPerRow tables_1 p e ha hc hk s m _ below hf ((Spec.applies_iff_loose hf).mp happ).1 ⟨rfl, State.Warmed39.refl s, rfl⟩ trivial
  refine ⟨n, _, h1, h2, h3, hpost _ _ _ _ _ _ ⟨Cond.after_iff.mpr rfl, Cond.after_iff.mpr (eq_i res_at (Term.int_eval (1)) rfl), trivial⟩ ⟨hq.1, hq.2.1, (hq.2.2.sift fun y hy => Or.inr (N y hy)).mono (by decide) (by decide)⟩⟩
theorem main_1_1 : Claimed_1_1 := comes_1 fun _ _ _ _ _ _ h hF => ⟨h.1, hF⟩
theorem main_1_2 : Claimed_1_2 := comes_1 fun _ _ _ _ _ _ h hF => ⟨h.2.1, hF⟩
end Jvm.Pilot.@@N@@
namespace Jvm.Pilot.@@N@@
open Jvm Jvm.ClassFile Sem Op Lib Jvm.Free Jvm.Stand Jvm.Pilot.@@N@@.Jvm.D
/-! MADE BY PROGRAM (witnessworld.py) out of the Statement's table words and the real class files: 12 classes; the members and pool entries that the words name. The judged class is class 1, her method 1. -/
namespace start1
open Jvm.ClassFile
def u (s : String) : CpInfo := .utf8 (stringToUtf16 s)
/-- a pool by its gaps: so many unusable entries, then the entry; so many at the end -/
def gap : Nat → List CpInfo → List CpInfo
  | 0, r => r
  | n + 1, r => .unusable :: gap n r
def poolList (es : List (Nat × CpInfo)) (last : Nat) : List CpInfo := es.foldr (fun e r => gap e.1 (e.2 :: r)) (gap last [])
def pool (es : List (Nat × CpInfo)) (last : Nat) : Array CpInfo := ⟨poolList es last⟩
def fileOf (pool : Array CpInfo) (this : Nat) (attrs : Array Attribute := #[]) (ms : Array MethodInfo := #[]) (fl : Nat := 33) (sup : Nat := 0) (ifs : Array Nat := #[]) (fds : Array FieldInfo := #[]) : ClassFile where
  minorVersion := 0
  majorVersion := 65
  constantPool := pool
  accessFlags := fl
  thisClass := this
  superClass := sup
  interfaces := ifs
  fields := fds
  methods := ms
  attributes := attrs
def plain (name : String) (sup : Option ClassId) : Class where
  name := name
  kind := .ordinary
  loader := none
  accessFlags := 33
  super := sup
  interfaces := #[]
  cf := none
  fields := #[]
  methods := #[]
  instanceTypes := #[]
  staticTypes := #[]
  resolved := #[]
  callSites := []
  init := .initialized
  statics := none
  mirror := none

def pool0 : Array CpInfo := pool [(5, u "<init>"), (0, u "()V"), (1, .class_ 10), (1, u "java/lang/Object")] 113

def k0m0 : Method := { name := "<init>", desc := "()V", sig := { parameters := [], returnType := none }, accessFlags := 1, code := none }
/-- java/lang/Object -/
def k0 : Class := { plain "java/lang/Object" none with
  accessFlags := 33
  interfaces := #[]
  cf := some (fileOf pool0 8 #[] #[{ accessFlags := 1, nameIndex := 5, descriptorIndex := 6, attributes := #[] }] 33 0 #[] #[])
  fields := #[]
  methods := #[k0m0]
  instanceTypes := #[]
  staticTypes := #[]
  resolved := Array.replicate 124 none
  statics := none }

def pool1 : Array CpInfo := pool [(2, .class_ 4), (1, u "java/lang/Object"), (0, u "<init>"), (0, u "()V"), (0, .integer 2147483647), (0, .fieldref 9 10), (0, .class_ 11), (0, .nameAndType 12 13), (0, u "com/example/forecache/forecache/LoadLevel"), (0, u "L1"), (0, u "Lcom/example/forecache/forecache/LoadLevel;"), (0, .fieldref 9 15), (0, .nameAndType 16 13), (0, u "L2"), (0, .fieldref 9 18), (0, .nameAndType 19 13), (0, u "L3"), (0, .double 4636737291354636288), (1, .methodref 9 23), (0, .nameAndType 24 25), (0, u "window"), (0, u "(JD)J"), (0, .class_ 27), (0, u "com/example/forecache/forecache/LoadLevelWindowPinLaw"), (2, u "law"), (0, u "(IJI)Z")] 3

def k1m0 : Method := { name := "<init>", desc := "()V", sig := { parameters := [], returnType := none }, accessFlags := 1, code := none }
def k1c1 : Code := { maxStack := 5, maxLocals := 13, code := code, exceptionTable := #[], attributes := #[] }
def k1m1 : Method := { name := "law", desc := "(IJI)Z", sig := { parameters := [.int, .long, .int], returnType := some .boolean }, accessFlags := 9, code := some k1c1 }
/-- com/example/forecache/forecache/LoadLevelWindowPinLaw -/
def k1 : Class := { plain "com/example/forecache/forecache/LoadLevelWindowPinLaw" (some 0) with
  accessFlags := 49
  interfaces := #[]
  cf := some (fileOf pool1 26 #[] #[{ accessFlags := 1, nameIndex := 5, descriptorIndex := 6, attributes := #[] }, { accessFlags := 9, nameIndex := 30, descriptorIndex := 31, attributes := #[] }] 49 2 #[] #[])
  fields := #[]
  methods := #[k1m0, k1m1]
  instanceTypes := #[]
  staticTypes := #[]
  resolved := Array.replicate 35 none
  statics := none }

def pool2 : Array CpInfo := pool [(1, .class_ 2), (0, u "java/lang/constant/Constable"), (0, .class_ 4), (0, u "java/lang/Object")] 6

/-- java/lang/constant/Constable -/
def k2 : Class := { plain "java/lang/constant/Constable" (some 0) with
  accessFlags := 1537
  interfaces := #[]
  cf := some (fileOf pool2 1 #[] #[] 1537 3 #[] #[])
  fields := #[]
  methods := #[]
  instanceTypes := #[]
  staticTypes := #[]
  resolved := Array.replicate 11 none
  statics := none }

def pool3 : Array CpInfo := pool [(1, .class_ 2), (0, u "java/lang/Comparable"), (0, .class_ 4), (0, u "java/lang/Object")] 7

/-- java/lang/Comparable -/
def k3 : Class := { plain "java/lang/Comparable" (some 0) with
  accessFlags := 1537
  interfaces := #[]
  cf := some (fileOf pool3 1 #[] #[] 1537 3 #[] #[])
  fields := #[]
  methods := #[]
  instanceTypes := #[]
  staticTypes := #[]
  resolved := Array.replicate 12 none
  statics := none }

def pool4 : Array CpInfo := pool [(1, .class_ 2), (0, u "java/io/Serializable"), (0, .class_ 4), (0, u "java/lang/Object")] 2

/-- java/io/Serializable -/
def k4 : Class := { plain "java/io/Serializable" (some 0) with
  accessFlags := 1537
  interfaces := #[]
  cf := some (fileOf pool4 1 #[] #[] 1537 3 #[] #[])
  fields := #[]
  methods := #[]
  instanceTypes := #[]
  staticTypes := #[]
  resolved := Array.replicate 7 none
  statics := none }

def pool5 : Array CpInfo := pool [(2, .class_ 4), (1, u "java/lang/Enum"), (0, u "name"), (0, u "Ljava/lang/String;"), (2, u "ordinal"), (0, u "I"), (1, .class_ 14), (1, u "java/lang/Object"), (4, u "hash"), (86, .class_ 108), (1, u "java/lang/Enum$EnumDesc"), (2, .class_ 112), (0, u "java/lang/constant/Constable"), (0, .class_ 114), (0, u "java/lang/Comparable"), (0, .class_ 116), (0, u "java/io/Serializable")] 87

/-- java/lang/Enum -/
def k5 : Class := { plain "java/lang/Enum" (some 0) with
  accessFlags := 1057
  interfaces := #[2, 3, 4]
  cf := some (fileOf pool5 2 #[.nestMembers #[106]] #[] 1057 12 #[111, 113, 115] #[{ accessFlags := 18, nameIndex := 5, descriptorIndex := 6, attributes := #[] }, { accessFlags := 18, nameIndex := 9, descriptorIndex := 10, attributes := #[] }, { accessFlags := 2, nameIndex := 19, descriptorIndex := 10, attributes := #[] }])
  fields := #[{ name := "name", type := (.object "java/lang/String"), accessFlags := 18, slot := 0, constantValue := 0 }, { name := "ordinal", type := .int, accessFlags := 18, slot := 1, constantValue := 0 }, { name := "hash", type := .int, accessFlags := 2, slot := 2, constantValue := 0 }]
  methods := #[]
  instanceTypes := #[(.object "java/lang/String"), .int, .int]
  staticTypes := #[]
  resolved := Array.replicate 204 none
  statics := none }

def pool6 : Array CpInfo := pool [(1, .class_ 2), (0, u "com/example/forecache/forecache/LoadLevel"), (2, u "L1"), (0, u "Lcom/example/forecache/forecache/LoadLevel;"), (2, u "L2"), (2, u "L3"), (2, u "$VALUES"), (0, u "[Lcom/example/forecache/forecache/LoadLevel;"), (6, .class_ 25), (1, u "java/lang/Enum"), (6, .fieldref 1 33), (0, .nameAndType 34 35), (0, u "rowsPerRow"), (0, u "I"), (6, u "ROUND_TRIP_OVERLOADED"), (0, u "Ljava/time/Duration;"), (6, .double 4604480259023595110), (5, u "ROUND_TRIP_IDLE"), (0, .long 2), (72, u "BUSY_OVERLOADED"), (0, u "D"), (1, u "MEMORY_OVERLOADED"), (0, u "BUSY_IDLE"), (0, u "MEMORY_IDLE"), (0, u "DOUBLING_HIT_RATIO"), (9, u "window"), (0, u "(JD)J")] 37

def k6c0 : Code := { maxStack := 4, maxLocals := 7, code := prog_54_method_5_code, exceptionTable := #[], attributes := #[] }
def k6m0 : Method := { name := "window", desc := "(JD)J", sig := { parameters := [.long, .double], returnType := some .long }, accessFlags := 0, code := some k6c0 }
/-- com/example/forecache/forecache/LoadLevel -/
def k6 : Class := { plain "com/example/forecache/forecache/LoadLevel" (some 5) with
  accessFlags := 16433
  interfaces := #[]
  cf := some (fileOf pool6 1 #[] #[{ accessFlags := 0, nameIndex := 146, descriptorIndex := 147, attributes := #[] }] 16433 23 #[] #[{ accessFlags := 16409, nameIndex := 5, descriptorIndex := 6, attributes := #[] }, { accessFlags := 16409, nameIndex := 9, descriptorIndex := 6, attributes := #[] }, { accessFlags := 16409, nameIndex := 12, descriptorIndex := 6, attributes := #[] }, { accessFlags := 26, nameIndex := 130, descriptorIndex := 131, attributes := #[] }, { accessFlags := 26, nameIndex := 133, descriptorIndex := 131, attributes := #[] }, { accessFlags := 26, nameIndex := 42, descriptorIndex := 43, attributes := #[] }, { accessFlags := 26, nameIndex := 134, descriptorIndex := 131, attributes := #[] }, { accessFlags := 26, nameIndex := 135, descriptorIndex := 131, attributes := #[] }, { accessFlags := 26, nameIndex := 56, descriptorIndex := 43, attributes := #[] }, { accessFlags := 26, nameIndex := 136, descriptorIndex := 131, attributes := #[] }, { accessFlags := 18, nameIndex := 34, descriptorIndex := 35, attributes := #[] }, { accessFlags := 4122, nameIndex := 15, descriptorIndex := 16, attributes := #[] }])
  fields := #[{ name := "L1", type := (.object "com/example/forecache/forecache/LoadLevel"), accessFlags := 16409, slot := 0, constantValue := 0 }, { name := "L2", type := (.object "com/example/forecache/forecache/LoadLevel"), accessFlags := 16409, slot := 1, constantValue := 0 }, { name := "L3", type := (.object "com/example/forecache/forecache/LoadLevel"), accessFlags := 16409, slot := 2, constantValue := 0 }, { name := "BUSY_OVERLOADED", type := .double, accessFlags := 26, slot := 3, constantValue := 0 }, { name := "MEMORY_OVERLOADED", type := .double, accessFlags := 26, slot := 4, constantValue := 0 }, { name := "ROUND_TRIP_OVERLOADED", type := (.object "java/time/Duration"), accessFlags := 26, slot := 5, constantValue := 0 }, { name := "BUSY_IDLE", type := .double, accessFlags := 26, slot := 6, constantValue := 0 }, { name := "MEMORY_IDLE", type := .double, accessFlags := 26, slot := 7, constantValue := 0 }, { name := "ROUND_TRIP_IDLE", type := (.object "java/time/Duration"), accessFlags := 26, slot := 8, constantValue := 0 }, { name := "DOUBLING_HIT_RATIO", type := .double, accessFlags := 26, slot := 9, constantValue := 0 }, { name := "rowsPerRow", type := .int, accessFlags := 18, slot := 3, constantValue := 0 }, { name := "$VALUES", type := (.array (.object "com/example/forecache/forecache/LoadLevel")), accessFlags := 4122, slot := 10, constantValue := 0 }]
  methods := #[k6m0]
  instanceTypes := #[(.object "java/lang/String"), .int, .int, .int]
  staticTypes := #[(.object "com/example/forecache/forecache/LoadLevel"), (.object "com/example/forecache/forecache/LoadLevel"), (.object "com/example/forecache/forecache/LoadLevel"), .double, .double, (.object "java/time/Duration"), .double, .double, (.object "java/time/Duration"), .double, (.array (.object "com/example/forecache/forecache/LoadLevel"))]
  resolved := Array.replicate 185 none
  statics := some 0 }

def pool7 : Array CpInfo := pool [(1, u "java/lang/Cloneable"), (0, .class_ 1), (0, u "java/lang/Object"), (0, .class_ 3)] 3

/-- java/lang/Cloneable -/
def k7 : Class := { plain "java/lang/Cloneable" (some 0) with
  accessFlags := 1537
  interfaces := #[]
  cf := some (fileOf pool7 2 #[] #[] 1537 4 #[] #[])
  fields := #[]
  methods := #[]
  instanceTypes := #[]
  staticTypes := #[]
  resolved := Array.replicate 8 none
  statics := none }

/-- the primitive byte -/
def k8 : Class := { plain "byte" none with kind := .primitive 'B', accessFlags := 0x411 }
/-- [B -/
def k9 : Class := { plain "[B" (some 0) with kind := .array 8 .byte, interfaces := #[7, 4], accessFlags := 1041 }

/-- the primitive int -/
def k10 : Class := { plain "int" none with kind := .primitive 'I', accessFlags := 0x411 }
/-- [I -/
def k11 : Class := { plain "[I" (some 0) with kind := .array 10 .int, interfaces := #[7, 4], accessFlags := 1041 }

def heap : Heap := #[{ cls := 6, slots := #[.ref 1, .ref 2, .ref 3, .double 0, .double 0, .null, .double 0, .double 0, .null, .double 0, .null], vm := .statics 6 },
  { cls := 6, slots := #[.null, .int 0, .int 0, .int 4], vm := .none },
  { cls := 6, slots := #[.null, .int 1, .int 0, .int 2], vm := .none },
  { cls := 6, slots := #[.null, .int 2, .int 0, .int 0], vm := .none }]
def classes : Array Class := #[k0, k1, k2, k3, k4, k5, k6, k7, k8, k9, k10, k11]
def interned : List (Array UInt16 × Addr) := []
def slotsUsed : Nat := 23
def theMethod : MethodId := ⟨1, 1⟩
def args0 : Array Value := #[.int 5, .long 5, .int 5]
def aboutOver (below : List Frame) : State where
  vm := { classes := classes, interned := interned.toArray }
  heap := heap
  slotsUsed := slotsUsed
  threads := #[{ frames := .invoking theMethod args0 :: below }]
def below0 : List Frame := [.native { method := ⟨0, 0⟩, args := #[] }]
def about1 : State := aboutOver below0
def p0 : Program := .bare "" "" ""
def e0 : Env := launch0.env 0 0 0
theorem w_frames : about1.frames = Frame.invoking theMethod args0 :: below0 := rfl
set_option maxRecDepth 65536 in
theorem w_args : argsFit about1.vm theMethod args0 = true := by decide +kernel
set_option maxRecDepth 65536 in
theorem w_heap : heapFits about1 = true := by decide +kernel
set_option maxRecDepth 65536 in
theorem w_runnable : about1.curStatus? = some .runnable := by decide +kernel
set_option maxRecDepth 65536 in
theorem w_alone : about1.alone = true := by decide +kernel
set_option maxRecDepth 65536 in
theorem w_named : about1.methodNamed? x = some theMethod := by decide +kernel
set_option maxRecDepth 65536 in
theorem w_hears : about1.hears theMethod below0 = true := by decide +kernel
set_option maxRecDepth 65536 in
theorem w_ripe : about1.ripe theMethod args0 below0 = true := by decide +kernel
theorem w_running : about1.status = .running := rfl
set_option maxRecDepth 65536 in
theorem w_room : about1.hasRoom e0.platform room_1 = true :=
  launch0.hasRoom_least _ room_1 (by decide +kernel) (by decide +kernel) (by decide +kernel) (by decide +kernel) (by decide +kernel) (by decide +kernel)
theorem allAtoms_all (ts : List Jvm.Cond) (a : Array Jvm.Value) (st : Jvm.State) : (allAtoms ts).before a st = ts.all (fun c => c.before a st) := by
  induction ts with
  | nil => rfl
  | cons c t ih =>
    show (Jvm.Cond.and c (allAtoms t)).before a st = _
    rw [Jvm.Cond.before_and, ih, List.all_cons]
def words1 : List Jvm.Cond := Jvm.Cond.code x code maxLocals ret :: tables_1
/-- a 'code' word, met by the world's own term for the bytes: nothing is compared byte by byte -/
theorem code_word {y : MethodName} {bytes : ByteArray} {mx : Nat} {rt : Option FieldType} {a : Array Value} {s : State} {m : MethodId} {meth : Method} {c : Code} (h1 : s.methodNamed? y = some m) (h2 : s.vm.method? m = some meth) (h3 : meth.code = some c) (h4 : c.code = bytes)
    (h5 : (c.maxLocals == mx && c.exceptionTable.isEmpty && decide (c.maxStack ≤ mostOperands) && decide (meth.sig.returnType = rt) && !meth.locks && decide (parseMethodDescriptor y.desc = some meth.sig)) = true) : (Jvm.Cond.code y bytes mx rt).before a s = true := by
  simp only [Bool.and_eq_true, beq_iff_eq, Bool.not_eq_true', decide_eq_true_eq] at h5
  obtain ⟨⟨⟨⟨⟨g1, g2⟩, g3⟩, g4⟩, g5⟩, g6⟩ := h5
  simp [Cond.before, Cond.holds, Cond.value, h1, h2, h3, h4, g1, g2, g3, g4, g5, g6]
def isCode : Jvm.Cond → Bool
  | .code _ _ _ _ => true
  | _ => false
theorem all_split {L : List Jvm.Cond} {P : Jvm.Cond → Bool} (h1 : L.all (fun c => isCode c || P c) = true) (h2 : ∀ c ∈ L.filter isCode, P c = true) : L.all P = true := by
  refine List.all_eq_true.mpr fun c hc => ?_
  have h := List.all_eq_true.mp h1 c hc
  rcases Bool.eq_false_or_eq_true (isCode c) with hi | hi
  · exact h2 c (List.mem_filter.mpr ⟨hc, hi⟩)
  · simpa [hi] using h
set_option maxRecDepth 65536 in
theorem w_c0 : (Jvm.Cond.code x code maxLocals ret).before args0 about1 = true := code_word (m := ⟨1, 1⟩) (meth := k1m1) (c := k1c1) (by decide +kernel) rfl rfl rfl (by decide +kernel)
set_option maxRecDepth 65536 in
theorem w_c1 : (Jvm.Cond.code ({ cls := "com/example/forecache/forecache/LoadLevel", name := "window", desc := "(JD)J" } : Jvm.MethodName) prog_54_method_5_code (7 : Nat) (Option.some Jvm.ClassFile.FieldType.long)).before args0 about1 = true := code_word (m := ⟨6, 0⟩) (meth := k6m0) (c := k6c0) (by decide +kernel) rfl rfl rfl (by decide +kernel)
def codes1 : List Jvm.Cond := [Jvm.Cond.code x code maxLocals ret, Jvm.Cond.code ({ cls := "com/example/forecache/forecache/LoadLevel", name := "window", desc := "(JD)J" } : Jvm.MethodName) prog_54_method_5_code (7 : Nat) (Option.some Jvm.ClassFile.FieldType.long)]
set_option maxRecDepth 65536 in
theorem codes_eq : words1.filter isCode = codes1 := rfl
theorem w_codes : ∀ c ∈ words1.filter isCode, c.before args0 about1 = true := by
  rw [codes_eq]
  intro c hc
  simp only [codes1, List.mem_cons, List.not_mem_nil, or_false] at hc
  rcases hc with rfl | rfl
  · exact w_c0
  · exact w_c1
set_option maxRecDepth 65536 in
theorem w_t1 : words1.all (fun c => isCode c || c.before args0 about1) = true := by decide +kernel
theorem w_tables : (allAtoms (Jvm.Cond.code x code maxLocals ret :: tables_1)).before args0 about1 = true := by
  rw [allAtoms_all]
  show words1.all (fun c => c.before args0 about1) = true
  refine all_split ?_ w_codes
  rw [w_t1]
set_option maxRecDepth 65536 in
theorem w_case : (Jvm.Cond.and given_1 narrow_1).before args0 about1 = true := by decide +kernel
theorem w_applies : (headSpec (Jvm.Cond.code x code maxLocals ret :: tables_1) room_1).applies x e0.platform about1 = true :=
  (Spec.applies_iff w_frames).mpr ⟨w_running, w_runnable, w_alone, w_named, w_hears, w_ripe, w_room, w_tables⟩
theorem atStart : AtStart classFile x code maxLocals ret World_1 tables_1 room_1 Calls_1 rest_1 Pre_1 launch0 p0 e0 about1 theMethod args0 below0 :=
  ⟨lists_1, trivial, launch0.admits_env _ _ _, launch0.least_env, fairChoices_fair.cas, fairChoices_fair.clock, w_frames, w_args, w_heap, w_applies, trivial, trivial, w_case⟩
end start1
theorem witness_1 : WitnessClaimed_1 := ⟨start1.p0, start1.e0, start1.about1, start1.theMethod, start1.args0, start1.below0, start1.atStart⟩
end Jvm.Pilot.@@N@@
