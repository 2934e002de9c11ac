import JvmDerived
import JvmDerived.Pilot.@@N@@Statement
import JvmDerived.Pilot.@@N@@Code
set_option linter.unusedVariables false
set_option linter.unusedSimpArgs false
namespace Jvm.Pilot.@@N@@
open Jvm Jvm.ClassFile Sem Op Lib Jvm.Free Jvm.Stand Jvm.LawKit Jvm.RoadKit Bundle Jvm.Pilot.@@N@@.Jvm.D
/-! own kit: a walk that goes forward: Go says what is still owed from the state S -/
section OwnGo
variable {p : Program} {l : Launch} {e : Env} {R : Room} {s : State} {m : MethodId} {args : Array Value} {below : List Frame} {meth : Method} {c : Code} {T : State} {locs : List Loc} {cells slots : Nat} {Z : State} {a0 : Array Value} {h : Heap} {G : Outcome → State → Prop} {S S' : State}
def Go (p : Program) (e : Env) (below : List Frame) (G : Outcome → State → Prop) (S : State) : Prop :=
  ∃ s₂ o, Steps p.tables e below S s₂ ∧ s₂.status = .running ∧ Ended s₂ below o ∧ G o s₂
theorem Go.st (h : ∀ t, Steps p.tables e below S' t → Steps p.tables e below S t) (k : Go p e below G S') : Go p e below G S := by
  obtain ⟨s₂, o, h1, h2⟩ := k
  exact ⟨s₂, o, h _ h1, h2⟩
theorem Go.tr (h : Steps p.tables e below S S') (k : Go p e below G S') : Go p e below G S := by
  obtain ⟨s₂, o, h1, h2⟩ := k
  exact ⟨s₂, o, h.trans h1, h2⟩
theorem Go.cast {g g' : JFrame} (q : g = g') (k : Go p e below G (T.setTop g')) : Go p e below G (T.setTop g) := q ▸ k
/-- what a body leaves: Q of the value, the heap and the places written -/
def Left (s : State) (K N : Nat) (Q : Option Value → Heap → List Loc → Prop) : Outcome → State → Prop :=
  fun o t => ∃ v L, o = .returned v ∧ Q v t.heap L ∧ FrameEnd s o t L K N
/-- a body's contract -/
def Pays (l : Launch) (y : MethodName) (bytes : ByteArray) (maxL : Nat) (ret : Option FieldType) (rm : Room) (Z : State) (as' : Array Value) (h0 : Heap) (Q : Option Value → Heap → List Loc → Prop) : Prop :=
  ∀ ws, MetFree l y (head1 (Cond.code y bytes maxL ret :: ws) rm) (fun a U => a = as' ∧ Z.Warmed39 U.vm ∧ U.heap = h0) (fun _ _ _ _ _ => True) (fun _ U o U' => ∃ v L, o = .returned v ∧ Q v U'.heap L ∧ FrameEnd U o U' L rm.cells rm.slots)
theorem Pays.of {y : MethodName} {bytes : ByteArray} {maxL : Nat} {ret : Option FieldType} {rm : Room} {as' : Array Value} {h0 : Heap} {Q : Option Value → Heap → List Loc → Prop} (hx : plainFor y = true)
    (body : ∀ (p : Program) (e : Env) (s : State) (m : MethodId) (below : List Frame) (meth : Method) (c : Code) (T : State), p.tables.exec = Jvm.exec → c.code = bytes → c.maxLocals = maxL → meth.sig.returnType = ret → meth.locks = false → Z.Warmed39 s.vm → s.vm.findClass y.cls = some m.cls → meth.name = y.name →
      T.heap = h0 → Stand p l e rm s m as' below meth c T [] 0 0 → Go p e below (Left s rm.cells rm.slots Q) (T.setTop (entryFrame m as' maxL))) : Pays l y bytes maxL ret rm Z as' h0 Q := by
  intro ws
  refine MetFree.of_bodySF hx hisR ?_
  intro p e s m args below meth c s₁ Bd hml0 hP hK
  obtain ⟨rfl, hZ, hh⟩ := hP
  exact body p e s m below meth c s₁ Bd.exec Bd.bytes hml0 Bd.returns Bd.notSynchronized hZ (findClass_of_methodNamed Bd.named) (name_of_methodNamed Bd.named Bd.method).1 (by rw [← hh, Bd.state]; rfl) (Stand.of_body Bd)
theorem Go.out (X : Stand p l e R s m args below meth c T locs cells slots) {v : Option Value} {K N : Nat} {Q : Option Value → Heap → List Loc → Prop} (hlocks : meth.locks = false) (hv : meth.sig.returnType = none → v = none) (hK : cells ≤ K) (hN : slots ≤ N) (hQ : Q v T.heap locs)
    (st : ∀ fs, (∀ (f : JFrame) (acts : List Action), f.method = m → f.locked = none → f.entered = [] → (doReturn e (T.setTop f) acts v).1 = T.setFrames fs) → Steps p.tables e below S (T.setFrames fs)) : Go p e below (Left s K N Q) S := by
  obtain ⟨fs, hr, hrun, hended, hW, hsame⟩ := X.leave hv hlocks
  exact ⟨_, _, st fs hr, hrun, hended, v, locs, rfl, hQ, ⟨_, rfl⟩, hW, hsame.mono hK hN⟩
theorem ret_b (X : Stand p l e R s m args below meth c T locs cells slots) (hx : p.tables.exec = Jvm.exec) (hlocks : meth.locks = false) (hret : meth.sig.returnType = some .boolean) {pc : Nat} {Ls : Array Slot} {z : Int32} {rest : List Value} {K N : Nat} {Q : Option Value → Heap → List Loc → Prop} (hd : decode c.code pc = .ok (.ireturn, 1)) (hK : cells ≤ K) (hN : slots ≤ N)
    (hQ : Q (some (.int (z &&& 1))) T.heap locs) : Go p e below (Left s K N Q) (T.setTop (mkF m pc Ls (.int z :: rest))) :=
  Go.out X (v := some (.int (z &&& 1))) hlocks (fun h => by rw [hret] at h; cases h) hK hN hQ fun fs hr => retN X hx (t := .boolean) hret (by simp) hd hr
theorem ret_c (X : Stand p l e R s m args below meth c T locs cells slots) (hx : p.tables.exec = Jvm.exec) (hlocks : meth.locks = false) (hret : meth.sig.returnType = some .char) {pc : Nat} {Ls : Array Slot} {z : Int32} {rest : List Value} {K N : Nat} {Q : Option Value → Heap → List Loc → Prop} (hd : decode c.code pc = .ok (.ireturn, 1)) (hK : cells ≤ K) (hN : slots ≤ N)
    (hQ : Q (some (.int (nar .char z))) T.heap locs) : Go p e below (Left s K N Q) (T.setTop (mkF m pc Ls (.int z :: rest))) :=
  Go.out X (v := some (.int (nar .char z))) hlocks (fun h => by rw [hret] at h; cases h) hK hN hQ fun fs hr => retN X hx (t := .char) hret (by simp) hd hr
theorem ret_y (X : Stand p l e R s m args below meth c T locs cells slots) (hx : p.tables.exec = Jvm.exec) (hlocks : meth.locks = false) (hret : meth.sig.returnType = some .byte) {pc : Nat} {Ls : Array Slot} {z : Int32} {rest : List Value} {K N : Nat} {Q : Option Value → Heap → List Loc → Prop} (hd : decode c.code pc = .ok (.ireturn, 1)) (hK : cells ≤ K) (hN : slots ≤ N)
    (hQ : Q (some (.int (nar .byte z))) T.heap locs) : Go p e below (Left s K N Q) (T.setTop (mkF m pc Ls (.int z :: rest))) :=
  Go.out X (v := some (.int (nar .byte z))) hlocks (fun h => by rw [hret] at h; cases h) hK hN hQ fun fs hr => retN X hx (t := .byte) hret (by simp) hd hr
theorem ret_i (X : Stand p l e R s m args below meth c T locs cells slots) (hx : p.tables.exec = Jvm.exec) (hlocks : meth.locks = false) (hret : meth.sig.returnType = some .int) {pc : Nat} {Ls : Array Slot} {z : Int32} {rest : List Value} {K N : Nat} {Q : Option Value → Heap → List Loc → Prop} (hd : decode c.code pc = .ok (.ireturn, 1)) (hK : cells ≤ K) (hN : slots ≤ N)
    (hQ : Q (some (.int z)) T.heap locs) : Go p e below (Left s K N Q) (T.setTop (mkF m pc Ls (.int z :: rest))) :=
  Go.out X (v := some (.int z)) hlocks (fun h => by rw [hret] at h; cases h) hK hN hQ fun fs hr => retOut X hx hret rfl (Or.inl ⟨rfl, Or.inl rfl, z, rfl⟩) hd hr
theorem ret_l (X : Stand p l e R s m args below meth c T locs cells slots) (hx : p.tables.exec = Jvm.exec) (hlocks : meth.locks = false) (hret : meth.sig.returnType = some .long) {pc : Nat} {Ls : Array Slot} {z : Int64} {rest : List Value} {K N : Nat} {Q : Option Value → Heap → List Loc → Prop} (hd : decode c.code pc = .ok (.lreturn, 1)) (hK : cells ≤ K) (hN : slots ≤ N)
    (hQ : Q (some (.long z)) T.heap locs) : Go p e below (Left s K N Q) (T.setTop (mkF m pc Ls (.long z :: rest))) :=
  Go.out X (v := some (.long z)) hlocks (fun h => by rw [hret] at h; cases h) hK hN hQ fun fs hr => retOut X hx hret rfl (Or.inr (Or.inl ⟨rfl, rfl, z, rfl⟩)) hd hr
theorem ret_d (X : Stand p l e R s m args below meth c T locs cells slots) (hx : p.tables.exec = Jvm.exec) (hlocks : meth.locks = false) (hret : meth.sig.returnType = some .double) {pc : Nat} {Ls : Array Slot} {z : UInt64} {rest : List Value} {K N : Nat} {Q : Option Value → Heap → List Loc → Prop} (hd : decode c.code pc = .ok (.dreturn, 1)) (hK : cells ≤ K) (hN : slots ≤ N)
    (hQ : Q (some (.double z)) T.heap locs) : Go p e below (Left s K N Q) (T.setTop (mkF m pc Ls (.double z :: rest))) :=
  Go.out X (v := some (.double z)) hlocks (fun h => by rw [hret] at h; cases h) hK hN hQ fun fs hr => retOut X hx hret rfl (Or.inr (Or.inr (Or.inl ⟨rfl, rfl, z, rfl⟩))) hd hr
theorem ret_a (X : Stand p l e R s m args below meth c T locs cells slots) (hx : p.tables.exec = Jvm.exec) (hlocks : meth.locks = false) {t : FieldType} (hret : meth.sig.returnType = some t) (ht : t.isReference = true) {pc : Nat} {Ls : Array Slot} {v : Value} (hv : v.isRef = true) {rest : List Value} {K N : Nat} {Q : Option Value → Heap → List Loc → Prop} (hd : decode c.code pc = .ok (.areturn, 1)) (hK : cells ≤ K) (hN : slots ≤ N)
    (hQ : Q (some v) T.heap locs) : Go p e below (Left s K N Q) (T.setTop (mkF m pc Ls (v :: rest))) :=
  Go.out X (v := some v) hlocks (fun h => by rw [hret] at h; cases h) hK hN hQ fun fs hr => retOut X hx hret (by rcases ref_cases hv with rfl | ⟨a, rfl⟩ <;> cases t <;> first | rfl | cases ht) (Or.inr (Or.inr (Or.inr (Or.inr ⟨rfl, ht, hv⟩)))) hd hr
theorem ret_v (X : Stand p l e R s m args below meth c T locs cells slots) (hx : p.tables.exec = Jvm.exec) (hlocks : meth.locks = false) (hret : meth.sig.returnType = none) {pc : Nat} {Ls : Array Slot} {K N : Nat} {Q : Option Value → Heap → List Loc → Prop} (hd : decode c.code pc = .ok (.return_, 1)) (hK : cells ≤ K) (hN : slots ≤ N)
    (hQ : Q none T.heap locs) : Go p e below (Left s K N Q) (T.setTop (mkF m pc Ls [])) :=
  Go.out X (v := none) hlocks (fun _ => rfl) hK hN hQ fun fs hr => X.returnOut hx hret hd hr
/-- a call of an instance method, by its contract -/
theorem Go.virt (X : Stand p l e R s m args below meth c T locs cells slots) (hx : p.tables.exec = Jvm.exec) (hZ : Z.Warmed39 s.vm) {own C : String} {index : Nat} {y z : MethodName} (hown : s.vm.findClass own = some m.cls) (wl : (Cond.methodLink own index y).before a0 Z = true) (wd : (Cond.declares y).before a0 Z = true) (nf : NotFace s y)
    (wsel : (Cond.selects C y z).before a0 Z = true) (wi : (Cond.instanceMethod z).before a0 Z = true) {bytes : ByteArray} {maxL : Nat} {ret : Option FieldType} (wc : (Cond.code z bytes maxL ret).before a0 Z = true) (wz : (Cond.initialized z.cls).before a0 Z = true) (hy : y.cls ≠ "java/lang/invoke/MethodHandle" ∧ y.cls ≠ "java/lang/invoke/VarHandle")
    {rm : Room} {Q : Option Value → Heap → List Loc → Prop} {b : Addr} {argsL rest : List Value} (P : Pays l z bytes maxL ret rm Z (.ref b :: argsL).toArray h Q) (eT : T.heap = h) (E : Exa Z h b C) {pc : Nat} {Ls : Array Slot} {st : List Value} (hst : st = argsL.reverse ++ .ref b :: rest) (hsz : Ls.size = c.maxLocals) {ps : List FieldType} {r : Option FieldType} (hpd : parseMethodDescriptor y.desc = some ⟨ps, r⟩) (hlen : argsL.length = ps.length)
    (hd : decode c.code pc = .ok (.invokevirtual index, 3)) (W : Nat) (hW : (rest.map fun v => v.category).sum ≤ W) (hf : rm.frames + 1 ≤ R.frames) (hl : W + (maxL + 11) + rm.locals ≤ R.locals) (hc : cells + rm.cells ≤ R.cells) (hs : slots + rm.slots ≤ R.slots)
    (k : ∀ (v : Option Value) (T' : State) (L : List Loc), Stand p l e R s m args below meth c T' (locs ++ L) (cells + rm.cells) (slots + rm.slots) → Q v T'.heap L → Go p e below G (T'.setTop (mkF m (pc + 3) Ls (v.toList ++ rest)))) : Go p e below G (T.setTop (mkF m pc Ls st)) := by
  obtain ⟨cB, kB, hcB, -, hrecv⟩ := isOf hZ eT E
  obtain ⟨v, _, ⟨T', L', k', n'⟩, -, X', ⟨L, hQ, h1, h2, h3⟩, stp⟩ := X.virtualBack hx hown (mvT hZ wl) (mvT hZ wd) nf (mvT hZ wsel) (mvT hZ wi) hy (backOf (W := W) (P []) hZ wc wz hf hl) hcB hrecv (g := mkF m pc Ls st) rfl hsz (Steps.refl _) (argsL := argsL) (rest := rest) (lenOf hpd hlen) hst (by show 2 * 0 + _ ≤ _; omega) hd (fun _ _ => ⟨rfl, eT, hc, hs⟩)
  dsimp only at X' hQ h1 h2 h3 stp
  subst h1 h2 h3
  exact Go.tr stp (k v T' L X' hQ)
/-- a call of an inherited method through a subclass's name, by its contract -/
theorem Go.up (X : Stand p l e R s m args below meth c T locs cells slots) (hx : p.tables.exec = Jvm.exec) (hZ : Z.Warmed39 s.vm) {own C owner : String} {index : Nat} {xm y : MethodName} (hown : s.vm.findClass own = some m.cls) (wl : (Cond.methodLink own index xm).before a0 Z = true) (wsm : (Cond.sameMethod xm.cls owner xm.name xm.desc).before a0 Z = true)
    (wd : (Cond.declares ⟨owner, xm.name, xm.desc⟩).before a0 Z = true) (wsel : (Cond.selects C xm y).before a0 Z = true) (wi : (Cond.instanceMethod y).before a0 Z = true) {bytes : ByteArray} {maxL : Nat} {ret : Option FieldType} (wc : (Cond.code y bytes maxL ret).before a0 Z = true) (wz : (Cond.initialized y.cls).before a0 Z = true) (hy : owner ≠ "java/lang/invoke/MethodHandle" ∧ owner ≠ "java/lang/invoke/VarHandle")
    {rm : Room} {Q : Option Value → Heap → List Loc → Prop} {b : Addr} {argsL rest : List Value} (P : Pays l y bytes maxL ret rm Z (.ref b :: argsL).toArray h Q) (eT : T.heap = h) (E : Exa Z h b C) {pc : Nat} {Ls : Array Slot} {st : List Value} (hst : st = argsL.reverse ++ .ref b :: rest) (hsz : Ls.size = c.maxLocals) {ps : List FieldType} {r : Option FieldType} (hpd : parseMethodDescriptor xm.desc = some ⟨ps, r⟩) (hlen : argsL.length = ps.length)
    (hd : decode c.code pc = .ok (.invokevirtual index, 3)) (W : Nat) (hW : (rest.map fun v => v.category).sum ≤ W) (hf : rm.frames + 1 ≤ R.frames) (hl : W + (maxL + 11) + rm.locals ≤ R.locals) (hc : cells + rm.cells ≤ R.cells) (hs : slots + rm.slots ≤ R.slots)
    (k : ∀ (v : Option Value) (T' : State) (L : List Loc), Stand p l e R s m args below meth c T' (locs ++ L) (cells + rm.cells) (slots + rm.slots) → Q v T'.heap L → Go p e below G (T'.setTop (mkF m (pc + 3) Ls (v.toList ++ rest)))) : Go p e below G (T.setTop (mkF m pc Ls st)) := by
  obtain ⟨cB, kB, hcB, -, hrecv⟩ := isOf hZ eT E
  obtain ⟨v, _, ⟨T', L', k', n'⟩, -, X', ⟨L, hQ, h1, h2, h3⟩, stp⟩ := X.virtualBackUp hx hown (mvT hZ wl) (mvT hZ wsm) (mvT hZ wd) hy (mvT hZ wsel) (mvT hZ wi) (backOf (W := W) (P []) hZ wc wz hf hl) hcB hrecv (g := mkF m pc Ls st) rfl hsz (Steps.refl _) (argsL := argsL) (rest := rest) (lenOf hpd hlen) hst (by show 2 * 0 + _ ≤ _; omega) hd (fun _ _ => ⟨rfl, eT, hc, hs⟩)
  dsimp only at X' hQ h1 h2 h3 stp
  subst h1 h2 h3
  exact Go.tr stp (k v T' L X' hQ)
/-- a call of a private instance method by invokevirtual, by its contract -/
theorem Go.priv (X : Stand p l e R s m args below meth c T locs cells slots) (hx : p.tables.exec = Jvm.exec) (hZ : Z.Warmed39 s.vm) {own C : String} {index : Nat} {y : MethodName} (hown : s.vm.findClass own = some m.cls) (wl : (Cond.methodLink own index y).before a0 Z = true) (wi : (Cond.instanceMethod y).before a0 Z = true)
    (wsel : (Cond.selects y.cls y y).before a0 Z = true) (wp : (Cond.privateMethod y).before a0 Z = true) {bytes : ByteArray} {maxL : Nat} {ret : Option FieldType} (wc : (Cond.code y bytes maxL ret).before a0 Z = true) (wz : (Cond.initialized y.cls).before a0 Z = true) (hy : y.cls ≠ "java/lang/invoke/MethodHandle" ∧ y.cls ≠ "java/lang/invoke/VarHandle")
    {rm : Room} {Q : Option Value → Heap → List Loc → Prop} {b : Addr} {argsL rest : List Value} (P : Pays l y bytes maxL ret rm Z (.ref b :: argsL).toArray h Q) (eT : T.heap = h) (E : Exa Z h b C) {pc : Nat} {Ls : Array Slot} {st : List Value} (hst : st = argsL.reverse ++ .ref b :: rest) (hsz : Ls.size = c.maxLocals) {ps : List FieldType} {r : Option FieldType} (hpd : parseMethodDescriptor y.desc = some ⟨ps, r⟩) (hlen : argsL.length = ps.length)
    (hd : decode c.code pc = .ok (.invokevirtual index, 3)) (W : Nat) (hW : (rest.map fun v => v.category).sum ≤ W) (hf : rm.frames + 1 ≤ R.frames) (hl : W + (maxL + 11) + rm.locals ≤ R.locals) (hc : cells + rm.cells ≤ R.cells) (hs : slots + rm.slots ≤ R.slots)
    (k : ∀ (v : Option Value) (T' : State) (L : List Loc), Stand p l e R s m args below meth c T' (locs ++ L) (cells + rm.cells) (slots + rm.slots) → Q v T'.heap L → Go p e below G (T'.setTop (mkF m (pc + 3) Ls (v.toList ++ rest)))) : Go p e below G (T.setTop (mkF m pc Ls st)) := by
  obtain ⟨cell, hcell, hobj⟩ := E.cell
  obtain ⟨v, _, ⟨T', L', k', n'⟩, -, X', ⟨L, hQ, h1, h2, h3⟩, stp⟩ := X.privateBack hx hown (mvT hZ wl) (mvT hZ wi) (mvT hZ wsel) (Cond.privateMethod_at (mvP (args := args) hZ wp)) (mvT hZ wc) hy (backOf (W := W) (P []) hZ wc wz hf hl) (g := mkF m pc Ls st) rfl hsz (Steps.refl _) (a := b) (by rw [eT]; exact hcell) hobj (argsL := argsL) (rest := rest) (lenOf hpd hlen) hst (by show 2 * 0 + _ ≤ _; omega) hd (fun _ _ => ⟨rfl, eT, hc, hs⟩)
  dsimp only at X' hQ h1 h2 h3 stp
  subst h1 h2 h3
  exact Go.tr stp (k v T' L X' hQ)
/-- a call of an interface's method, by the contract of the method that it goes to -/
theorem Go.face (X : Stand p l e R s m args below meth c T locs cells slots) (hx : p.tables.exec = Jvm.exec) (hZ : Z.Warmed39 s.vm) {own C : String} {index count : Nat} {xi y : MethodName} (hown : s.vm.findClass own = some m.cls) (wl : (Cond.methodLink own index xi).before a0 Z = true) (wd : (Cond.declares xi).before a0 Z = true)
    (wf : (Cond.interfaceMethod xi.cls xi.cls xi.name xi.desc).before args s = true) (wsel : (Cond.selects C xi y).before a0 Z = true) (wi : (Cond.instanceMethod y).before a0 Z = true) (wpub : (Cond.publicMethod y).before a0 Z = true) (wun : (Cond.unhidden C xi.name xi.desc).before a0 Z = true) (wca : (Cond.castable C xi.cls).before a0 Z = true)
    {bytes : ByteArray} {maxL : Nat} {ret : Option FieldType} (wc : (Cond.code y bytes maxL ret).before a0 Z = true) (wz : (Cond.initialized y.cls).before a0 Z = true) (hy : xi.cls ≠ "java/lang/invoke/MethodHandle" ∧ xi.cls ≠ "java/lang/invoke/VarHandle")
    {rm : Room} {Q : Option Value → Heap → List Loc → Prop} {b : Addr} {argsL rest : List Value} (P : Pays l y bytes maxL ret rm Z (.ref b :: argsL).toArray h Q) (eT : T.heap = h) (E : Exa Z h b C) {pc : Nat} {Ls : Array Slot} {st : List Value} (hst : st = argsL.reverse ++ .ref b :: rest) (hsz : Ls.size = c.maxLocals) {ps : List FieldType} {r : Option FieldType} (hpd : parseMethodDescriptor xi.desc = some ⟨ps, r⟩) (hlen : argsL.length = ps.length)
    (hd : decode c.code pc = .ok (.invokeinterface index count, 5)) (W : Nat) (hW : (rest.map fun v => v.category).sum ≤ W) (hf : rm.frames + 1 ≤ R.frames) (hl : W + (maxL + 11) + rm.locals ≤ R.locals) (hc : cells + rm.cells ≤ R.cells) (hs : slots + rm.slots ≤ R.slots)
    (k : ∀ (v : Option Value) (T' : State) (L : List Loc), Stand p l e R s m args below meth c T' (locs ++ L) (cells + rm.cells) (slots + rm.slots) → Q v T'.heap L → Go p e below G (T'.setTop (mkF m (pc + 5) Ls (v.toList ++ rest)))) : Go p e below G (T.setTop (mkF m pc Ls st)) := by
  obtain ⟨cB, kB, hcB, hkB, hrecv⟩ := isOf hZ eT E
  obtain ⟨v, _, ⟨T', L', k', n'⟩, -, X', ⟨L, hQ, h1, h2, h3⟩, stp⟩ := X.interfaceBack hx hown (mvT hZ wl) (mvT hZ wd) wf (mvT hZ wsel) (mvT hZ wi) (mvT hZ wpub) (mvT hZ wun) (mvT hZ wca) hy (backOf (W := W) (P []) hZ wc wz hf hl) hcB hkB hrecv (g := mkF m pc Ls st) rfl hsz (Steps.refl _) (argsL := argsL) (rest := rest) (lenOf hpd hlen) hst (by show 2 * 0 + _ ≤ _; omega) hd (fun _ _ => ⟨rfl, eT, hc, hs⟩)
  dsimp only at X' hQ h1 h2 h3 stp
  subst h1 h2 h3
  exact Go.tr stp (k v T' L X' hQ)
/-- a call of a constructor, by its contract -/
theorem Go.init (X : Stand p l e R s m args below meth c T locs cells slots) (hx : p.tables.exec = Jvm.exec) (hZ : Z.Warmed39 s.vm) {own : String} {index : Nat} {y : MethodName} (hy1 : y.name = "<init>") (hown : s.vm.findClass own = some m.cls) (wl : (Cond.methodLink own index y).before a0 Z = true)
    (wi : (Cond.instanceMethod y).before a0 Z = true) {bytes : ByteArray} {maxL : Nat} (wc : (Cond.code y bytes maxL none).before a0 Z = true) (wz : (Cond.initialized y.cls).before a0 Z = true) (hy : y.cls ≠ "java/lang/invoke/MethodHandle" ∧ y.cls ≠ "java/lang/invoke/VarHandle")
    {rm : Room} {Q : Option Value → Heap → List Loc → Prop} {b : Addr} {argsL rest : List Value} (P : Pays l y bytes maxL none rm Z (.ref b :: argsL).toArray h Q) (eT : T.heap = h) {pc : Nat} {Ls : Array Slot} {st : List Value} (hst : st = argsL.reverse ++ .ref b :: rest) (hsz : Ls.size = c.maxLocals) {ps : List FieldType} {r : Option FieldType} (hpd : parseMethodDescriptor y.desc = some ⟨ps, r⟩) (hlen : argsL.length = ps.length)
    (hd : decode c.code pc = .ok (.invokespecial index, 3)) (W : Nat) (hW : (rest.map fun v => v.category).sum ≤ W) (hf : rm.frames + 1 ≤ R.frames) (hl : W + (maxL + 11) + rm.locals ≤ R.locals) (hc : cells + rm.cells ≤ R.cells) (hs : slots + rm.slots ≤ R.slots)
    (k : ∀ (v : Option Value) (T' : State) (L : List Loc), Stand p l e R s m args below meth c T' (locs ++ L) (cells + rm.cells) (slots + rm.slots) → Q v T'.heap L → Go p e below G (T'.setTop (mkF m (pc + 3) Ls (v.toList ++ rest)))) : Go p e below G (T.setTop (mkF m pc Ls st)) := by
  obtain ⟨v, _, ⟨T', L', k', n'⟩, -, X', ⟨L, hQ, h1, h2, h3⟩, stp⟩ := X.specialBack hx hy1 hown (mvT hZ wl) (mvT hZ wi) (mvT hZ wc) hy (backOf (W := W) (P []) hZ wc wz hf hl) (g := mkF m pc Ls st) rfl hsz (Steps.refl _) (a := b) (argsL := argsL) (rest := rest) (lenOf hpd hlen) hst (by show 2 * 0 + _ ≤ _; omega) hd (fun _ _ => ⟨rfl, eT, hc, hs⟩)
  dsimp only at X' hQ h1 h2 h3 stp
  subst h1 h2 h3
  exact Go.tr stp (k v T' L X' hQ)
/-- a call of a static method, by its contract -/
theorem Go.stat (X : Stand p l e R s m args below meth c T locs cells slots) (hx : p.tables.exec = Jvm.exec) (hZ : Z.Warmed39 s.vm) {own : String} {index : Nat} {y : MethodName} (hown : s.vm.findClass own = some m.cls) (wl : (Cond.methodLink own index y).before a0 Z = true)
    (wst : (Cond.static y).before a0 Z = true) (wz : (Cond.initialized y.cls).before a0 Z = true) {bytes : ByteArray} {maxL : Nat} {ret : Option FieldType} (wc : (Cond.code y bytes maxL ret).before a0 Z = true) (hy : y.cls ≠ "java/lang/invoke/MethodHandle" ∧ y.cls ≠ "java/lang/invoke/VarHandle")
    {rm : Room} {Q : Option Value → Heap → List Loc → Prop} {argsL rest : List Value} (P : Pays l y bytes maxL ret rm Z argsL.toArray h Q) (eT : T.heap = h) {pc : Nat} {Ls : Array Slot} {st : List Value} (hst : st = argsL.reverse ++ rest) (hsz : Ls.size = c.maxLocals) {ps : List FieldType} {r : Option FieldType} (hpd : parseMethodDescriptor y.desc = some ⟨ps, r⟩) (hlen : argsL.length = ps.length)
    (hd : decode c.code pc = .ok (.invokestatic index, 3)) (W : Nat) (hW : (rest.map fun v => v.category).sum ≤ W) (hf : rm.frames + 1 ≤ R.frames) (hl : W + (maxL + 11) + rm.locals ≤ R.locals) (hc : cells + rm.cells ≤ R.cells) (hs : slots + rm.slots ≤ R.slots)
    (k : ∀ (v : Option Value) (T' : State) (L : List Loc), Stand p l e R s m args below meth c T' (locs ++ L) (cells + rm.cells) (slots + rm.slots) → Q v T'.heap L → Go p e below G (T'.setTop (mkF m (pc + 3) Ls (v.toList ++ rest)))) : Go p e below G (T.setTop (mkF m pc Ls st)) := by
  obtain ⟨mk, hnamed⟩ := Cond.named_of_code (mvT (args := args) hZ wc)
  obtain ⟨methM, cM, hmeth, hcode, -, -, -, -, -, hsig⟩ := Cond.code_spec hnamed (mvT (args := args) hZ wc)
  obtain ⟨v, _, ⟨T', L', k', n'⟩, -, X', ⟨L, hQ, h1, h2, h3⟩, stp⟩ := X.staticBack hx hown (mvT hZ wl) (mvT hZ wst) (mvT hZ wz) hnamed hmeth hsig hy (backOf (W := W) (P []) hZ wc wz hf hl) (g := mkF m pc Ls st) rfl hsz (Steps.refl _) (argsL := argsL) (rest := rest) (lenOf hpd hlen) hst (by show 2 * 0 + _ ≤ _; omega) hd (fun _ _ => ⟨rfl, eT, hc, hs⟩)
  dsimp only at X' hQ h1 h2 h3 stp
  subst h1 h2 h3
  exact Go.tr stp (k v T' L X' hQ)
theorem own_alen (X : Stand p l e R s m args below meth c T locs cells slots) (hx : p.tables.exec = Jvm.exec) (hZ : Z.Warmed39 s.vm) (eT : T.heap = h) {a : Addr} {cl : Cell} {ty : FieldType} (A : Arr Z h a cl ty) {z : Int32} (q : cl.slots.size.toInt32 = z) {pc : Nat} {Ls : Array Slot} {st rest : List Value} (hst : st = .ref a :: rest)
    (hd : decode c.code pc = .ok (.arraylength, 1)) (target : State) (k : Steps p.tables e below (T.setTop (mkF m (pc + 1) Ls (.int z :: rest))) target) : Steps p.tables e below (T.setTop (mkF m pc Ls st)) target :=
  X.arraylength hx (by rw [eT]; exact A.1) (State.isArrayOf_alike hZ.alike A.2.1) (g := mkF m pc Ls st) rfl hst hd target (by rw [q]; exact k)
def ObjAt (h : Heap) (x : Addr) : Prop := ∃ cell : Cell, h[x]? = some cell ∧ cell.vm.isStatics = false
theorem own_obj_exa {x : Addr} {C : String} (F : Exa Z h x C) : ObjAt h x := by
  obtain ⟨c1, _, h1, _, _, h4, _⟩ := F
  exact ⟨c1, h1, h4⟩
theorem own_obj_arv {x : Addr} {k : ClassId} {ty : FieldType} {n : Int32} {vs : List Value} {d : Value} (F : Arv Z h x k ty n vs d) : ObjAt h x := by
  obtain ⟨c1, A, _⟩ := F
  exact ⟨c1, A.1, A.plain⟩
theorem own_sta_keep {h' : Heap} {C n d : String} {v : Value} {ws : List Addr} (F : Sta Z h C n d v) (K : Keep h h' ws) (hws : ∀ x ∈ ws, ObjAt h x) : Sta Z h' C n d v := by
  obtain ⟨cf, i, k, f, st, cell, h1, h2, h3, h4, h5, h6, h7⟩ := F
  refine ⟨cf, i, k, f, st, cell, h1, h2, h3, h4, K.2.1 _ _ h5 fun q => ?_, h6, h7⟩
  obtain ⟨c1, g1, g2⟩ := hws _ q
  cases h5.symm.trans g1
  rw [h6] at g2
  cases g2
theorem own_entry {n : Nat} {Ls : Array Slot} (h : Jvm.Sym.laidSlots args.toList ++ List.replicate (n - (Jvm.Sym.laidSlots args.toList).length) .unset = Ls.toList) : entryFrame m args n = mkF m 0 Ls [] := by
  have q : argsToLocals args n = Ls := Array.toList_inj.mp (by rw [Jvm.Sym.argsToLocals_toList]; exact h)
  unfold entryFrame
  rw [q]
theorem own_eqI {first : State} {o : Option Outcome} {idx : List Nat} {a b : Term} {x y : Int32} (ha : a.eval args first o idx s = some (.int x)) (hb : b.eval args first o idx s = some (.int y)) : (Jvm.Cond.eq a b).value args first o s idx = some (decide (x = y)) := by simp [Cond.value, ha, hb]
theorem own_nar_ref {t : FieldType} {v : Value} (hv : v.isRef = true) : narrow t v = v := by
  rcases ref_cases hv with rfl | ⟨a, rfl⟩ <;> cases t <;> rfl
theorem own_fit_ref {t : FieldType} {v : Value} (hv : v.isRef = true) (ht : t.isReference = true := by rfl) : fits t v = true := by
  rcases ref_cases hv with rfl | ⟨a, rfl⟩ <;> cases t <;> first | rfl | cases ht
end OwnGo
theorem d1_0 : decode prog_109_method_5_code 0 = .ok (.aload_n 0, 1) := by decide +kernel
theorem d1_1 : decode prog_109_method_5_code 1 = .ok (.getstatic 3, 3) := by decide +kernel
theorem d1_4 : decode prog_109_method_5_code 4 = .ok (.if_acmp .eq 17, 3) := by decide +kernel
theorem d1_7 : decode prog_109_method_5_code 7 = .ok (.aload_n 0, 1) := by decide +kernel
theorem d1_8 : decode prog_109_method_5_code 8 = .ok (.getstatic 7, 3) := by decide +kernel
theorem d1_11 : decode prog_109_method_5_code 11 = .ok (.if_acmp .eq 10, 3) := by decide +kernel
theorem d1_14 : decode prog_109_method_5_code 14 = .ok (.aload_n 0, 1) := by decide +kernel
theorem d1_15 : decode prog_109_method_5_code 15 = .ok (.getstatic 10, 3) := by decide +kernel
theorem d1_18 : decode prog_109_method_5_code 18 = .ok (.if_acmp .ne 7, 3) := by decide +kernel
theorem d1_21 : decode prog_109_method_5_code 21 = .ok (.iconst 1, 1) := by decide +kernel
theorem d1_22 : decode prog_109_method_5_code 22 = .ok (.goto 4, 3) := by decide +kernel
theorem d1_25 : decode prog_109_method_5_code 25 = .ok (.iconst 0, 1) := by decide +kernel
theorem d1_26 : decode prog_109_method_5_code 26 = .ok (.ireturn, 1) := by decide +kernel
theorem pn_com_example_forecache_forecache_TableRules_Type : plainName "com/example/forecache/forecache/TableRules$Type" = true := by first | (simp [plainName, overriddenIn]; done) | decide +kernel
theorem ef_rm1 (m : MethodId) (a : Addr) : entryFrame m #[(.ref a)] 1 = mkF m 0 #[.val (.ref a)] [] := by first | exact own_entry rfl | (simp [entryFrame, mkF, argsToLocals, Value.category]; done) | rfl
set_option maxRecDepth 65536 in
set_option maxHeartbeats 40000000 in
theorem rm1 (l : Launch) (Z : State) (a0 : Array Value) (hw : ∀ d ∈ tables_1, d.before a0 Z = true) (a b0 b1 b2 : Addr) (r : Int32) (h0 : Heap) (n0 : Nat) (Z0 : n0 ≤ h0.size) (S_b0 : Sta Z h0 "com/example/forecache/forecache/TableRules$Type" "SMALLINT" "Lcom/example/forecache/forecache/TableRules$Type;" (.ref b0)) (S_b1 : Sta Z h0 "com/example/forecache/forecache/TableRules$Type" "INTEGER" "Lcom/example/forecache/forecache/TableRules$Type;" (.ref b1)) (S_b2 : Sta Z h0 "com/example/forecache/forecache/TableRules$Type" "BIGINT" "Lcom/example/forecache/forecache/TableRules$Type;" (.ref b2)) (hr : r = if a = b0 ∨ a = b1 ∨ a = b2 then 1 else 0) :
    Pays l (⟨"com/example/forecache/forecache/TableRules$Type", "isWhole", "()Z"⟩ : MethodName) prog_109_method_5_code 1 (some .boolean) ({ frames := 0, cells := 0, slots := 0, locals := 0 } : Room) Z #[(.ref a)] h0 (fun v h L => v = some (.int r) ∧ Fr n0 L ∧ h = h0) := by
  refine Pays.of (plainFor_of_name pn_com_example_forecache_forecache_TableRules_Type) ?_
  intro pP eE sS m below methM cC T hx hby hml hret hlk hZ hown hnm eT X
  replace hown : sS.vm.findClass "com/example/forecache/forecache/TableRules$Type" = some m.cls := hown
  have N0 := Fr.nil n0
  refine Go.cast (ef_rm1 m a) ?_
  refine Go.st (S' := T.setTop (mkF m 1 #[.val (.ref a)] [(.ref a)])) (fun t kt => XS.aloadN X.here hx rfl (hb hby d1_0) rfl rfl kt) ?_
  obtain ⟨T1, X1, e1, st1⟩ := getS X hx hZ (host := "") hown (hw _ (List.mem_of_getElem? (i := 29) rfl)) Via.refl eT S_b0 (g := (mkF m 1 #[.val (.ref a)] [(.ref a)])) rfl (hb hby d1_1)
  refine Go.st (S' := T1.setTop (mkF m 4 #[.val (.ref a)] [(.ref b0), (.ref a)])) (fun t kt => st1 t kt) ?_
  by_cases ha2 : a = b0
  · refine Go.st (S' := T1.setTop (mkF m 21 #[.val (.ref a)] [])) (fun t kt => XT.acmpYes X1.here hx rfl (pc0 := 4) (pc' := 21) rfl (hb hby d1_4) rfl rfl rfl (XT.aa_eq_t (congrArg Value.ref ha2)) (by decide) (by decide) kt) ?_
    refine Go.st (S' := T1.setTop (mkF m 22 #[.val (.ref a)] [(.int (1 : Int32))])) (fun t kt => XS.iconst X1.here hx rfl (hb hby d1_21) kt) ?_
    refine Go.st (S' := T1.setTop (mkF m 26 #[.val (.ref a)] [(.int (1 : Int32))])) (fun t kt => XS.goto X1.here hx rfl (pc0 := 22) (pc' := 26) rfl (hb hby d1_22) (by decide) (by decide) kt) ?_
    exact ret_b X1 hx hlk hret (hb hby d1_26) (by decide) (by decide) (⟨by rw [hr]; simp [ha2] <;> rfl, N0, e1⟩)
  · refine Go.st (S' := T1.setTop (mkF m 7 #[.val (.ref a)] [])) (fun t kt => XT.acmpNo X1.here hx rfl (hb hby d1_4) rfl rfl rfl (XT.aa_eq_f (fun q => ha2 (Value.ref.inj q))) kt) ?_
    refine Go.st (S' := T1.setTop (mkF m 8 #[.val (.ref a)] [(.ref a)])) (fun t kt => XS.aloadN X1.here hx rfl (hb hby d1_7) rfl rfl kt) ?_
    obtain ⟨T3, X3, e3, st3⟩ := getS X1 hx hZ (host := "") hown (hw _ (List.mem_of_getElem? (i := 37) rfl)) Via.refl e1 S_b1 (g := (mkF m 8 #[.val (.ref a)] [(.ref a)])) rfl (hb hby d1_8)
    refine Go.st (S' := T3.setTop (mkF m 11 #[.val (.ref a)] [(.ref b1), (.ref a)])) (fun t kt => st3 t kt) ?_
    by_cases ha4 : a = b1
    · refine Go.st (S' := T3.setTop (mkF m 21 #[.val (.ref a)] [])) (fun t kt => XT.acmpYes X3.here hx rfl (pc0 := 11) (pc' := 21) rfl (hb hby d1_11) rfl rfl rfl (XT.aa_eq_t (congrArg Value.ref ha4)) (by decide) (by decide) kt) ?_
      refine Go.st (S' := T3.setTop (mkF m 22 #[.val (.ref a)] [(.int (1 : Int32))])) (fun t kt => XS.iconst X3.here hx rfl (hb hby d1_21) kt) ?_
      refine Go.st (S' := T3.setTop (mkF m 26 #[.val (.ref a)] [(.int (1 : Int32))])) (fun t kt => XS.goto X3.here hx rfl (pc0 := 22) (pc' := 26) rfl (hb hby d1_22) (by decide) (by decide) kt) ?_
      exact ret_b X3 hx hlk hret (hb hby d1_26) (by decide) (by decide) (⟨by rw [hr]; simp [ha2, ha4] <;> rfl, N0, e3⟩)
    · refine Go.st (S' := T3.setTop (mkF m 14 #[.val (.ref a)] [])) (fun t kt => XT.acmpNo X3.here hx rfl (hb hby d1_11) rfl rfl rfl (XT.aa_eq_f (fun q => ha4 (Value.ref.inj q))) kt) ?_
      refine Go.st (S' := T3.setTop (mkF m 15 #[.val (.ref a)] [(.ref a)])) (fun t kt => XS.aloadN X3.here hx rfl (hb hby d1_14) rfl rfl kt) ?_
      obtain ⟨T5, X5, e5, st5⟩ := getS X3 hx hZ (host := "") hown (hw _ (List.mem_of_getElem? (i := 38) rfl)) Via.refl e3 S_b2 (g := (mkF m 15 #[.val (.ref a)] [(.ref a)])) rfl (hb hby d1_15)
      refine Go.st (S' := T5.setTop (mkF m 18 #[.val (.ref a)] [(.ref b2), (.ref a)])) (fun t kt => st5 t kt) ?_
      by_cases ha6 : a = b2
      · refine Go.st (S' := T5.setTop (mkF m 21 #[.val (.ref a)] [])) (fun t kt => XT.acmpNo X5.here hx rfl (hb hby d1_18) rfl rfl rfl (XT.aa_ne_f (congrArg Value.ref ha6)) kt) ?_
        refine Go.st (S' := T5.setTop (mkF m 22 #[.val (.ref a)] [(.int (1 : Int32))])) (fun t kt => XS.iconst X5.here hx rfl (hb hby d1_21) kt) ?_
        refine Go.st (S' := T5.setTop (mkF m 26 #[.val (.ref a)] [(.int (1 : Int32))])) (fun t kt => XS.goto X5.here hx rfl (pc0 := 22) (pc' := 26) rfl (hb hby d1_22) (by decide) (by decide) kt) ?_
        exact ret_b X5 hx hlk hret (hb hby d1_26) (by decide) (by decide) (⟨by rw [hr]; simp [ha2, ha4, ha6] <;> rfl, N0, e5⟩)
      · refine Go.st (S' := T5.setTop (mkF m 25 #[.val (.ref a)] [])) (fun t kt => XT.acmpYes X5.here hx rfl (pc0 := 18) (pc' := 25) rfl (hb hby d1_18) rfl rfl rfl (XT.aa_ne_t (fun q => ha6 (Value.ref.inj q))) (by decide) (by decide) kt) ?_
        refine Go.st (S' := T5.setTop (mkF m 26 #[.val (.ref a)] [(.int (0 : Int32))])) (fun t kt => XS.iconst X5.here hx rfl (hb hby d1_25) kt) ?_
        exact ret_b X5 hx hlk hret (hb hby d1_26) (by decide) (by decide) (⟨by rw [hr]; simp [ha2, ha4, ha6] <;> rfl, N0, e5⟩)
theorem d2_0 : decode prog_109_method_6_code 0 = .ok (.aload_n 0, 1) := by decide +kernel
theorem d2_1 : decode prog_109_method_6_code 1 = .ok (.getstatic 16, 3) := by decide +kernel
theorem d2_4 : decode prog_109_method_6_code 4 = .ok (.if_acmp .eq 10, 3) := by decide +kernel
theorem d2_7 : decode prog_109_method_6_code 7 = .ok (.aload_n 0, 1) := by decide +kernel
theorem d2_8 : decode prog_109_method_6_code 8 = .ok (.getstatic 19, 3) := by decide +kernel
theorem d2_11 : decode prog_109_method_6_code 11 = .ok (.if_acmp .ne 7, 3) := by decide +kernel
theorem d2_14 : decode prog_109_method_6_code 14 = .ok (.iconst 1, 1) := by decide +kernel
theorem d2_15 : decode prog_109_method_6_code 15 = .ok (.goto 4, 3) := by decide +kernel
theorem d2_18 : decode prog_109_method_6_code 18 = .ok (.iconst 0, 1) := by decide +kernel
theorem d2_19 : decode prog_109_method_6_code 19 = .ok (.ireturn, 1) := by decide +kernel
theorem ef_rm2 (m : MethodId) (a : Addr) : entryFrame m #[(.ref a)] 1 = mkF m 0 #[.val (.ref a)] [] := by first | exact own_entry rfl | (simp [entryFrame, mkF, argsToLocals, Value.category]; done) | rfl
set_option maxRecDepth 65536 in
set_option maxHeartbeats 40000000 in
theorem rm2 (l : Launch) (Z : State) (a0 : Array Value) (hw : ∀ d ∈ tables_1, d.before a0 Z = true) (a b4 b5 : Addr) (r : Int32) (h0 : Heap) (n0 : Nat) (Z0 : n0 ≤ h0.size) (S_b4 : Sta Z h0 "com/example/forecache/forecache/TableRules$Type" "VARCHAR" "Lcom/example/forecache/forecache/TableRules$Type;" (.ref b4)) (S_b5 : Sta Z h0 "com/example/forecache/forecache/TableRules$Type" "TEXT" "Lcom/example/forecache/forecache/TableRules$Type;" (.ref b5)) (hr : r = if a = b4 ∨ a = b5 then 1 else 0) :
    Pays l (⟨"com/example/forecache/forecache/TableRules$Type", "isText", "()Z"⟩ : MethodName) prog_109_method_6_code 1 (some .boolean) ({ frames := 0, cells := 0, slots := 0, locals := 0 } : Room) Z #[(.ref a)] h0 (fun v h L => v = some (.int r) ∧ Fr n0 L ∧ h = h0) := by
  refine Pays.of (plainFor_of_name pn_com_example_forecache_forecache_TableRules_Type) ?_
  intro pP eE sS m below methM cC T hx hby hml hret hlk hZ hown hnm eT X
  replace hown : sS.vm.findClass "com/example/forecache/forecache/TableRules$Type" = some m.cls := hown
  have N0 := Fr.nil n0
  refine Go.cast (ef_rm2 m a) ?_
  refine Go.st (S' := T.setTop (mkF m 1 #[.val (.ref a)] [(.ref a)])) (fun t kt => XS.aloadN X.here hx rfl (hb hby d2_0) rfl rfl kt) ?_
  obtain ⟨T1, X1, e1, st1⟩ := getS X hx hZ (host := "") hown (hw _ (List.mem_of_getElem? (i := 35) rfl)) Via.refl eT S_b4 (g := (mkF m 1 #[.val (.ref a)] [(.ref a)])) rfl (hb hby d2_1)
  refine Go.st (S' := T1.setTop (mkF m 4 #[.val (.ref a)] [(.ref b4), (.ref a)])) (fun t kt => st1 t kt) ?_
  by_cases ha2 : a = b4
  · refine Go.st (S' := T1.setTop (mkF m 14 #[.val (.ref a)] [])) (fun t kt => XT.acmpYes X1.here hx rfl (pc0 := 4) (pc' := 14) rfl (hb hby d2_4) rfl rfl rfl (XT.aa_eq_t (congrArg Value.ref ha2)) (by decide) (by decide) kt) ?_
    refine Go.st (S' := T1.setTop (mkF m 15 #[.val (.ref a)] [(.int (1 : Int32))])) (fun t kt => XS.iconst X1.here hx rfl (hb hby d2_14) kt) ?_
    refine Go.st (S' := T1.setTop (mkF m 19 #[.val (.ref a)] [(.int (1 : Int32))])) (fun t kt => XS.goto X1.here hx rfl (pc0 := 15) (pc' := 19) rfl (hb hby d2_15) (by decide) (by decide) kt) ?_
    exact ret_b X1 hx hlk hret (hb hby d2_19) (by decide) (by decide) (⟨by rw [hr]; simp [ha2] <;> rfl, N0, e1⟩)
  · refine Go.st (S' := T1.setTop (mkF m 7 #[.val (.ref a)] [])) (fun t kt => XT.acmpNo X1.here hx rfl (hb hby d2_4) rfl rfl rfl (XT.aa_eq_f (fun q => ha2 (Value.ref.inj q))) kt) ?_
    refine Go.st (S' := T1.setTop (mkF m 8 #[.val (.ref a)] [(.ref a)])) (fun t kt => XS.aloadN X1.here hx rfl (hb hby d2_7) rfl rfl kt) ?_
    obtain ⟨T3, X3, e3, st3⟩ := getS X1 hx hZ (host := "") hown (hw _ (List.mem_of_getElem? (i := 36) rfl)) Via.refl e1 S_b5 (g := (mkF m 8 #[.val (.ref a)] [(.ref a)])) rfl (hb hby d2_8)
    refine Go.st (S' := T3.setTop (mkF m 11 #[.val (.ref a)] [(.ref b5), (.ref a)])) (fun t kt => st3 t kt) ?_
    by_cases ha4 : a = b5
    · refine Go.st (S' := T3.setTop (mkF m 14 #[.val (.ref a)] [])) (fun t kt => XT.acmpNo X3.here hx rfl (hb hby d2_11) rfl rfl rfl (XT.aa_ne_f (congrArg Value.ref ha4)) kt) ?_
      refine Go.st (S' := T3.setTop (mkF m 15 #[.val (.ref a)] [(.int (1 : Int32))])) (fun t kt => XS.iconst X3.here hx rfl (hb hby d2_14) kt) ?_
      refine Go.st (S' := T3.setTop (mkF m 19 #[.val (.ref a)] [(.int (1 : Int32))])) (fun t kt => XS.goto X3.here hx rfl (pc0 := 15) (pc' := 19) rfl (hb hby d2_15) (by decide) (by decide) kt) ?_
      exact ret_b X3 hx hlk hret (hb hby d2_19) (by decide) (by decide) (⟨by rw [hr]; simp [ha2, ha4] <;> rfl, N0, e3⟩)
    · refine Go.st (S' := T3.setTop (mkF m 18 #[.val (.ref a)] [])) (fun t kt => XT.acmpYes X3.here hx rfl (pc0 := 11) (pc' := 18) rfl (hb hby d2_11) rfl rfl rfl (XT.aa_ne_t (fun q => ha4 (Value.ref.inj q))) (by decide) (by decide) kt) ?_
      refine Go.st (S' := T3.setTop (mkF m 19 #[.val (.ref a)] [(.int (0 : Int32))])) (fun t kt => XS.iconst X3.here hx rfl (hb hby d2_18) kt) ?_
      exact ret_b X3 hx hlk hret (hb hby d2_19) (by decide) (by decide) (⟨by rw [hr]; simp [ha2, ha4] <;> rfl, N0, e3⟩)
theorem own_mod9 (x : Int32) : (x &&& (2147483647 : Int32)) % (9 : Int32) = 0 ∨ (x &&& (2147483647 : Int32)) % (9 : Int32) = 1 ∨ (x &&& (2147483647 : Int32)) % (9 : Int32) = 2 ∨ (x &&& (2147483647 : Int32)) % (9 : Int32) = 3 ∨ (x &&& (2147483647 : Int32)) % (9 : Int32) = 4 ∨ (x &&& (2147483647 : Int32)) % (9 : Int32) = 5 ∨ (x &&& (2147483647 : Int32)) % (9 : Int32) = 6 ∨ (x &&& (2147483647 : Int32)) % (9 : Int32) = 7 ∨ (x &&& (2147483647 : Int32)) % (9 : Int32) = 8 := by
  have h := c_and x (2147483647 : Int32) (by decide)
  generalize (x &&& (2147483647 : Int32)) = y at h
  have q := (c_irem y (9 : Int32) 9 rfl).1 h.1
  generalize y % (9 : Int32) = z at q
  have e : z.toInt = 0 ∨ z.toInt = 1 ∨ z.toInt = 2 ∨ z.toInt = 3 ∨ z.toInt = 4 ∨ z.toInt = 5 ∨ z.toInt = 6 ∨ z.toInt = 7 ∨ z.toInt = 8 := by omega
  have k : ∀ w : Int32, z.toInt = w.toInt → z = w := fun w h => Int32.toInt_inj.mp h
  rcases e with e | e | e | e | e | e | e | e | e
  · exact Or.inl (k 0 e)
  · exact Or.inr (Or.inl (k 1 e))
  · exact Or.inr (Or.inr (Or.inl (k 2 e)))
  · exact Or.inr (Or.inr (Or.inr (Or.inl (k 3 e))))
  · exact Or.inr (Or.inr (Or.inr (Or.inr (Or.inl (k 4 e)))))
  · exact Or.inr (Or.inr (Or.inr (Or.inr (Or.inr (Or.inl (k 5 e))))))
  · exact Or.inr (Or.inr (Or.inr (Or.inr (Or.inr (Or.inr (Or.inl (k 6 e)))))))
  · exact Or.inr (Or.inr (Or.inr (Or.inr (Or.inr (Or.inr (Or.inr (Or.inl (k 7 e))))))))
  · exact Or.inr (Or.inr (Or.inr (Or.inr (Or.inr (Or.inr (Or.inr (Or.inr (k 8 e))))))))
theorem pd___Z : parseMethodDescriptor "()Z" = some ⟨[], some .boolean⟩ := by decide +kernel
theorem pn_com_example_forecache_forecache_TypeIsWholePinLaw : plainName "com/example/forecache/forecache/TypeIsWholePinLaw" = true := by first | (simp [plainName, overriddenIn]; done) | decide +kernel
theorem ef_rm0 (m : MethodId) (p0 : Int32) : entryFrame m #[(.int p0)] maxLocals = mkF m 0 #[.val (.int p0), .unset, .unset, .unset, .unset, .unset] [] := by first | exact own_entry rfl | (simp [entryFrame, mkF, argsToLocals, Value.category, maxLocals]; done) | rfl
set_option maxRecDepth 65536 in
set_option maxHeartbeats 40000000 in
theorem rm0 (l : Launch) (Z : State) (a0 : Array Value) (hw : ∀ d ∈ tables_1, d.before a0 Z = true) (p0 : Int32) (h0 : Heap) (n0 : Nat) (Z0 : n0 ≤ h0.size) (b0 b1 b2 b3 b4 b5 b6 b7 b8 : Addr) (S_b0 : Sta Z h0 "com/example/forecache/forecache/TableRules$Type" "SMALLINT" "Lcom/example/forecache/forecache/TableRules$Type;" (.ref b0)) (S_b1 : Sta Z h0 "com/example/forecache/forecache/TableRules$Type" "INTEGER" "Lcom/example/forecache/forecache/TableRules$Type;" (.ref b1)) (S_b2 : Sta Z h0 "com/example/forecache/forecache/TableRules$Type" "BIGINT" "Lcom/example/forecache/forecache/TableRules$Type;" (.ref b2)) (S_b3 : Sta Z h0 "com/example/forecache/forecache/TableRules$Type" "NUMERIC" "Lcom/example/forecache/forecache/TableRules$Type;" (.ref b3)) (S_b4 : Sta Z h0 "com/example/forecache/forecache/TableRules$Type" "VARCHAR" "Lcom/example/forecache/forecache/TableRules$Type;" (.ref b4)) (S_b5 : Sta Z h0 "com/example/forecache/forecache/TableRules$Type" "TEXT" "Lcom/example/forecache/forecache/TableRules$Type;" (.ref b5)) (S_b6 : Sta Z h0 "com/example/forecache/forecache/TableRules$Type" "TIMESTAMP" "Lcom/example/forecache/forecache/TableRules$Type;" (.ref b6)) (S_b7 : Sta Z h0 "com/example/forecache/forecache/TableRules$Type" "DATE" "Lcom/example/forecache/forecache/TableRules$Type;" (.ref b7)) (S_b8 : Sta Z h0 "com/example/forecache/forecache/TableRules$Type" "OTHER" "Lcom/example/forecache/forecache/TableRules$Type;" (.ref b8)) (E_b0 : Exa Z h0 b0 "com/example/forecache/forecache/TableRules$Type") (E_b1 : Exa Z h0 b1 "com/example/forecache/forecache/TableRules$Type") (E_b2 : Exa Z h0 b2 "com/example/forecache/forecache/TableRules$Type") (E_b3 : Exa Z h0 b3 "com/example/forecache/forecache/TableRules$Type") (E_b4 : Exa Z h0 b4 "com/example/forecache/forecache/TableRules$Type") (E_b5 : Exa Z h0 b5 "com/example/forecache/forecache/TableRules$Type") (E_b6 : Exa Z h0 b6 "com/example/forecache/forecache/TableRules$Type") (E_b7 : Exa Z h0 b7 "com/example/forecache/forecache/TableRules$Type") (E_b8 : Exa Z h0 b8 "com/example/forecache/forecache/TableRules$Type") (d30 : b3 ≠ b0) (d31 : b3 ≠ b1) (d32 : b3 ≠ b2) (d40 : b4 ≠ b0) (d41 : b4 ≠ b1) (d42 : b4 ≠ b2) (d50 : b5 ≠ b0) (d51 : b5 ≠ b1) (d52 : b5 ≠ b2) (d60 : b6 ≠ b0) (d61 : b6 ≠ b1) (d62 : b6 ≠ b2) (d70 : b7 ≠ b0) (d71 : b7 ≠ b1) (d72 : b7 ≠ b2) (d80 : b8 ≠ b0) (d81 : b8 ≠ b1) (d82 : b8 ≠ b2) (d04 : b0 ≠ b4) (d05 : b0 ≠ b5) (d14 : b1 ≠ b4) (d15 : b1 ≠ b5) (d24 : b2 ≠ b4) (d25 : b2 ≠ b5) :
    Pays l x code maxLocals ret room_1 Z #[(.int p0)] h0 (fun v h L => v = some (.int 1) ∧ Fr n0 L) := by
  refine Pays.of (plainFor_of_name pn_com_example_forecache_forecache_TypeIsWholePinLaw) ?_
  intro pP eE sS m below methM cC T hx hby hml hret hlk hZ hown hnm eT X
  replace hown : sS.vm.findClass "com/example/forecache/forecache/TypeIsWholePinLaw" = some m.cls := hown
  have N0 := Fr.nil n0
  refine Go.cast (ef_rm0 m p0) ?_
  refine Go.st (S' := T.setTop (mkF m 2 #[.val (.int p0), .unset, .unset, .unset, .unset, .unset] [(.int (9 : Int32))])) (fun t kt => XT.bipushV X.here hx rfl (9 : Int32) (hb hby at_0) (by decide) kt) ?_
  obtain ⟨T1, h1, k1, X1, e1, E1, A1, O1, st1⟩ := newR X hx hZ hown (hw _ (List.mem_of_getElem? (i := 0) rfl)) (hw _ (List.mem_of_getElem? (i := 1) rfl)) eT (g := (mkF m 2 #[.val (.int p0), .unset, .unset, .unset, .unset, .unset] [(.int (9 : Int32))])) rfl (hb hby at_2) rfl (by decide) (cap := 9) (by decide) (by decide) (by decide) (by decide)
  obtain ⟨a1, g1⟩ : ∃ z, z = h0.size := ⟨_, rfl⟩
  rw [← g1] at A1 st1
  have V1 : Arv Z h1 a1 k1 (.object "com/example/forecache/forecache/TableRules$Type") (9 : Int32) [.null, .null, .null, .null, .null, .null, .null, .null, .null] .null := Arv.pad (Arv.new A1 (by decide)) (pad_rep [] _ 9)
  have Z1 : n0 ≤ h1.size := Nat.le_trans Z0 E1.1
  refine Go.st (S' := T1.setTop (mkF m 5 #[.val (.int p0), .unset, .unset, .unset, .unset, .unset] [(.ref a1)])) (fun t kt => st1 t kt) ?_
  refine Go.st (S' := T1.setTop (mkF m 6 #[.val (.int p0), .unset, .unset, .unset, .unset, .unset] [(.ref a1), (.ref a1)])) (fun t kt => XS.dup X1.here hx rfl (hb hby at_5) rfl rfl kt) ?_
  refine Go.st (S' := T1.setTop (mkF m 7 #[.val (.int p0), .unset, .unset, .unset, .unset, .unset] [(.int (0 : Int32)), (.ref a1), (.ref a1)])) (fun t kt => XS.iconst X1.here hx rfl (hb hby at_6) kt) ?_
  have f2 := (S_b0.ext E1)
  obtain ⟨T3, X3, e3, st3⟩ := getS X1 hx hZ (host := "") hown (hw _ (List.mem_of_getElem? (i := 2) rfl)) Via.refl e1 f2 (g := (mkF m 7 #[.val (.int p0), .unset, .unset, .unset, .unset, .unset] [(.int (0 : Int32)), (.ref a1), (.ref a1)])) rfl (hb hby at_7)
  refine Go.st (S' := T3.setTop (mkF m 10 #[.val (.int p0), .unset, .unset, .unset, .unset, .unset] [(.ref b0), (.int (0 : Int32)), (.ref a1), (.ref a1)])) (fun t kt => st3 t kt) ?_
  obtain ⟨cl4, Ar4, q4, S4, M4, H4, G4⟩ := id V1
  have f5 := (E_b0.ext E1)
  obtain ⟨T4, h4, X4, e4, W4, st4⟩ := stR X3 hx hZ e3 Ar4 (j := (0 : Int32)) (inb_of S4 ⟨by decide, by decide⟩) rfl (Sto.ofV Ar4 q4 O1 (Ins.self f5)) (g := (mkF m 10 #[.val (.int p0), .unset, .unset, .unset, .unset, .unset] [(.ref b0), (.int (0 : Int32)), (.ref a1), (.ref a1)])) rfl rfl (hb hby at_10)
  have V4 : Arv Z h4 a1 k1 (.object "com/example/forecache/forecache/TableRules$Type") (9 : Int32) [(.ref b0), .null, .null, .null, .null, .null, .null, .null, .null] .null := Arv.set Ar4 q4 S4 M4 H4 G4 rfl W4 0 rfl (Nat.le_of_ble_eq_true rfl)
  have N4 := Fr.snoc X4 N0 (Nat.le_trans Z0 (Nat.le_of_eq g1.symm))
  have Z4 : n0 ≤ h4.size := by rw [Wr.size W4]; exact Z1
  refine Go.st (S' := T4.setTop (mkF m 11 #[.val (.int p0), .unset, .unset, .unset, .unset, .unset] [(.ref a1)])) (fun t kt => st4 t kt) ?_
  refine Go.st (S' := T4.setTop (mkF m 12 #[.val (.int p0), .unset, .unset, .unset, .unset, .unset] [(.ref a1), (.ref a1)])) (fun t kt => XS.dup X4.here hx rfl (hb hby at_11) rfl rfl kt) ?_
  refine Go.st (S' := T4.setTop (mkF m 13 #[.val (.int p0), .unset, .unset, .unset, .unset, .unset] [(.int (1 : Int32)), (.ref a1), (.ref a1)])) (fun t kt => XS.iconst X4.here hx rfl (hb hby at_12) kt) ?_
  have f6 := (Sta.wr W4 (S_b1.ext E1))
  obtain ⟨T7, X7, e7, st7⟩ := getS X4 hx hZ (host := "") hown (hw _ (List.mem_of_getElem? (i := 6) rfl)) Via.refl e4 f6 (g := (mkF m 13 #[.val (.int p0), .unset, .unset, .unset, .unset, .unset] [(.int (1 : Int32)), (.ref a1), (.ref a1)])) rfl (hb hby at_13)
  refine Go.st (S' := T7.setTop (mkF m 16 #[.val (.int p0), .unset, .unset, .unset, .unset, .unset] [(.ref b1), (.int (1 : Int32)), (.ref a1), (.ref a1)])) (fun t kt => st7 t kt) ?_
  obtain ⟨cl8, Ar8, q8, S8, M8, H8, G8⟩ := id V4
  have f9 := (Exa.wr W4 (E_b1.ext E1))
  obtain ⟨T8, h8, X8, e8, W8, st8⟩ := stR X7 hx hZ e7 Ar8 (j := (1 : Int32)) (inb_of S8 ⟨by decide, by decide⟩) rfl (Sto.ofV Ar8 q8 O1 (Ins.self f9)) (g := (mkF m 16 #[.val (.int p0), .unset, .unset, .unset, .unset, .unset] [(.ref b1), (.int (1 : Int32)), (.ref a1), (.ref a1)])) rfl rfl (hb hby at_16)
  have V8 : Arv Z h8 a1 k1 (.object "com/example/forecache/forecache/TableRules$Type") (9 : Int32) [(.ref b0), (.ref b1), .null, .null, .null, .null, .null, .null, .null] .null := Arv.set Ar8 q8 S8 M8 H8 G8 rfl W8 1 rfl (Nat.le_of_ble_eq_true rfl)
  have N8 := Fr.snoc X8 N4 (Nat.le_trans Z0 (Nat.le_of_eq g1.symm))
  have Z8 : n0 ≤ h8.size := by rw [Wr.size W8]; exact Z4
  refine Go.st (S' := T8.setTop (mkF m 17 #[.val (.int p0), .unset, .unset, .unset, .unset, .unset] [(.ref a1)])) (fun t kt => st8 t kt) ?_
  refine Go.st (S' := T8.setTop (mkF m 18 #[.val (.int p0), .unset, .unset, .unset, .unset, .unset] [(.ref a1), (.ref a1)])) (fun t kt => XS.dup X8.here hx rfl (hb hby at_17) rfl rfl kt) ?_
  refine Go.st (S' := T8.setTop (mkF m 19 #[.val (.int p0), .unset, .unset, .unset, .unset, .unset] [(.int (2 : Int32)), (.ref a1), (.ref a1)])) (fun t kt => XS.iconst X8.here hx rfl (hb hby at_18) kt) ?_
  have f10 := (Sta.wr W8 (Sta.wr W4 (S_b2.ext E1)))
  obtain ⟨T11, X11, e11, st11⟩ := getS X8 hx hZ (host := "") hown (hw _ (List.mem_of_getElem? (i := 8) rfl)) Via.refl e8 f10 (g := (mkF m 19 #[.val (.int p0), .unset, .unset, .unset, .unset, .unset] [(.int (2 : Int32)), (.ref a1), (.ref a1)])) rfl (hb hby at_19)
  refine Go.st (S' := T11.setTop (mkF m 22 #[.val (.int p0), .unset, .unset, .unset, .unset, .unset] [(.ref b2), (.int (2 : Int32)), (.ref a1), (.ref a1)])) (fun t kt => st11 t kt) ?_
  obtain ⟨cl12, Ar12, q12, S12, M12, H12, G12⟩ := id V8
  have f13 := (Exa.wr W8 (Exa.wr W4 (E_b2.ext E1)))
  obtain ⟨T12, h12, X12, e12, W12, st12⟩ := stR X11 hx hZ e11 Ar12 (j := (2 : Int32)) (inb_of S12 ⟨by decide, by decide⟩) rfl (Sto.ofV Ar12 q12 O1 (Ins.self f13)) (g := (mkF m 22 #[.val (.int p0), .unset, .unset, .unset, .unset, .unset] [(.ref b2), (.int (2 : Int32)), (.ref a1), (.ref a1)])) rfl rfl (hb hby at_22)
  have V12 : Arv Z h12 a1 k1 (.object "com/example/forecache/forecache/TableRules$Type") (9 : Int32) [(.ref b0), (.ref b1), (.ref b2), .null, .null, .null, .null, .null, .null] .null := Arv.set Ar12 q12 S12 M12 H12 G12 rfl W12 2 rfl (Nat.le_of_ble_eq_true rfl)
  have N12 := Fr.snoc X12 N8 (Nat.le_trans Z0 (Nat.le_of_eq g1.symm))
  have Z12 : n0 ≤ h12.size := by rw [Wr.size W12]; exact Z8
  refine Go.st (S' := T12.setTop (mkF m 23 #[.val (.int p0), .unset, .unset, .unset, .unset, .unset] [(.ref a1)])) (fun t kt => st12 t kt) ?_
  refine Go.st (S' := T12.setTop (mkF m 24 #[.val (.int p0), .unset, .unset, .unset, .unset, .unset] [(.ref a1), (.ref a1)])) (fun t kt => XS.dup X12.here hx rfl (hb hby at_23) rfl rfl kt) ?_
  refine Go.st (S' := T12.setTop (mkF m 25 #[.val (.int p0), .unset, .unset, .unset, .unset, .unset] [(.int (3 : Int32)), (.ref a1), (.ref a1)])) (fun t kt => XS.iconst X12.here hx rfl (hb hby at_24) kt) ?_
  have f14 := (Sta.wr W12 (Sta.wr W8 (Sta.wr W4 (S_b3.ext E1))))
  obtain ⟨T15, X15, e15, st15⟩ := getS X12 hx hZ (host := "") hown (hw _ (List.mem_of_getElem? (i := 10) rfl)) Via.refl e12 f14 (g := (mkF m 25 #[.val (.int p0), .unset, .unset, .unset, .unset, .unset] [(.int (3 : Int32)), (.ref a1), (.ref a1)])) rfl (hb hby at_25)
  refine Go.st (S' := T15.setTop (mkF m 28 #[.val (.int p0), .unset, .unset, .unset, .unset, .unset] [(.ref b3), (.int (3 : Int32)), (.ref a1), (.ref a1)])) (fun t kt => st15 t kt) ?_
  obtain ⟨cl16, Ar16, q16, S16, M16, H16, G16⟩ := id V12
  have f17 := (Exa.wr W12 (Exa.wr W8 (Exa.wr W4 (E_b3.ext E1))))
  obtain ⟨T16, h16, X16, e16, W16, st16⟩ := stR X15 hx hZ e15 Ar16 (j := (3 : Int32)) (inb_of S16 ⟨by decide, by decide⟩) rfl (Sto.ofV Ar16 q16 O1 (Ins.self f17)) (g := (mkF m 28 #[.val (.int p0), .unset, .unset, .unset, .unset, .unset] [(.ref b3), (.int (3 : Int32)), (.ref a1), (.ref a1)])) rfl rfl (hb hby at_28)
  have V16 : Arv Z h16 a1 k1 (.object "com/example/forecache/forecache/TableRules$Type") (9 : Int32) [(.ref b0), (.ref b1), (.ref b2), (.ref b3), .null, .null, .null, .null, .null] .null := Arv.set Ar16 q16 S16 M16 H16 G16 rfl W16 3 rfl (Nat.le_of_ble_eq_true rfl)
  have N16 := Fr.snoc X16 N12 (Nat.le_trans Z0 (Nat.le_of_eq g1.symm))
  have Z16 : n0 ≤ h16.size := by rw [Wr.size W16]; exact Z12
  refine Go.st (S' := T16.setTop (mkF m 29 #[.val (.int p0), .unset, .unset, .unset, .unset, .unset] [(.ref a1)])) (fun t kt => st16 t kt) ?_
  refine Go.st (S' := T16.setTop (mkF m 30 #[.val (.int p0), .unset, .unset, .unset, .unset, .unset] [(.ref a1), (.ref a1)])) (fun t kt => XS.dup X16.here hx rfl (hb hby at_29) rfl rfl kt) ?_
  refine Go.st (S' := T16.setTop (mkF m 31 #[.val (.int p0), .unset, .unset, .unset, .unset, .unset] [(.int (4 : Int32)), (.ref a1), (.ref a1)])) (fun t kt => XS.iconst X16.here hx rfl (hb hby at_30) kt) ?_
  have f18 := (Sta.wr W16 (Sta.wr W12 (Sta.wr W8 (Sta.wr W4 (S_b4.ext E1)))))
  obtain ⟨T19, X19, e19, st19⟩ := getS X16 hx hZ (host := "") hown (hw _ (List.mem_of_getElem? (i := 12) rfl)) Via.refl e16 f18 (g := (mkF m 31 #[.val (.int p0), .unset, .unset, .unset, .unset, .unset] [(.int (4 : Int32)), (.ref a1), (.ref a1)])) rfl (hb hby at_31)
  refine Go.st (S' := T19.setTop (mkF m 34 #[.val (.int p0), .unset, .unset, .unset, .unset, .unset] [(.ref b4), (.int (4 : Int32)), (.ref a1), (.ref a1)])) (fun t kt => st19 t kt) ?_
  obtain ⟨cl20, Ar20, q20, S20, M20, H20, G20⟩ := id V16
  have f21 := (Exa.wr W16 (Exa.wr W12 (Exa.wr W8 (Exa.wr W4 (E_b4.ext E1)))))
  obtain ⟨T20, h20, X20, e20, W20, st20⟩ := stR X19 hx hZ e19 Ar20 (j := (4 : Int32)) (inb_of S20 ⟨by decide, by decide⟩) rfl (Sto.ofV Ar20 q20 O1 (Ins.self f21)) (g := (mkF m 34 #[.val (.int p0), .unset, .unset, .unset, .unset, .unset] [(.ref b4), (.int (4 : Int32)), (.ref a1), (.ref a1)])) rfl rfl (hb hby at_34)
  have V20 : Arv Z h20 a1 k1 (.object "com/example/forecache/forecache/TableRules$Type") (9 : Int32) [(.ref b0), (.ref b1), (.ref b2), (.ref b3), (.ref b4), .null, .null, .null, .null] .null := Arv.set Ar20 q20 S20 M20 H20 G20 rfl W20 4 rfl (Nat.le_of_ble_eq_true rfl)
  have N20 := Fr.snoc X20 N16 (Nat.le_trans Z0 (Nat.le_of_eq g1.symm))
  have Z20 : n0 ≤ h20.size := by rw [Wr.size W20]; exact Z16
  refine Go.st (S' := T20.setTop (mkF m 35 #[.val (.int p0), .unset, .unset, .unset, .unset, .unset] [(.ref a1)])) (fun t kt => st20 t kt) ?_
  refine Go.st (S' := T20.setTop (mkF m 36 #[.val (.int p0), .unset, .unset, .unset, .unset, .unset] [(.ref a1), (.ref a1)])) (fun t kt => XS.dup X20.here hx rfl (hb hby at_35) rfl rfl kt) ?_
  refine Go.st (S' := T20.setTop (mkF m 37 #[.val (.int p0), .unset, .unset, .unset, .unset, .unset] [(.int (5 : Int32)), (.ref a1), (.ref a1)])) (fun t kt => XS.iconst X20.here hx rfl (hb hby at_36) kt) ?_
  have f22 := (Sta.wr W20 (Sta.wr W16 (Sta.wr W12 (Sta.wr W8 (Sta.wr W4 (S_b5.ext E1))))))
  obtain ⟨T23, X23, e23, st23⟩ := getS X20 hx hZ (host := "") hown (hw _ (List.mem_of_getElem? (i := 14) rfl)) Via.refl e20 f22 (g := (mkF m 37 #[.val (.int p0), .unset, .unset, .unset, .unset, .unset] [(.int (5 : Int32)), (.ref a1), (.ref a1)])) rfl (hb hby at_37)
  refine Go.st (S' := T23.setTop (mkF m 40 #[.val (.int p0), .unset, .unset, .unset, .unset, .unset] [(.ref b5), (.int (5 : Int32)), (.ref a1), (.ref a1)])) (fun t kt => st23 t kt) ?_
  obtain ⟨cl24, Ar24, q24, S24, M24, H24, G24⟩ := id V20
  have f25 := (Exa.wr W20 (Exa.wr W16 (Exa.wr W12 (Exa.wr W8 (Exa.wr W4 (E_b5.ext E1))))))
  obtain ⟨T24, h24, X24, e24, W24, st24⟩ := stR X23 hx hZ e23 Ar24 (j := (5 : Int32)) (inb_of S24 ⟨by decide, by decide⟩) rfl (Sto.ofV Ar24 q24 O1 (Ins.self f25)) (g := (mkF m 40 #[.val (.int p0), .unset, .unset, .unset, .unset, .unset] [(.ref b5), (.int (5 : Int32)), (.ref a1), (.ref a1)])) rfl rfl (hb hby at_40)
  have V24 : Arv Z h24 a1 k1 (.object "com/example/forecache/forecache/TableRules$Type") (9 : Int32) [(.ref b0), (.ref b1), (.ref b2), (.ref b3), (.ref b4), (.ref b5), .null, .null, .null] .null := Arv.set Ar24 q24 S24 M24 H24 G24 rfl W24 5 rfl (Nat.le_of_ble_eq_true rfl)
  have N24 := Fr.snoc X24 N20 (Nat.le_trans Z0 (Nat.le_of_eq g1.symm))
  have Z24 : n0 ≤ h24.size := by rw [Wr.size W24]; exact Z20
  refine Go.st (S' := T24.setTop (mkF m 41 #[.val (.int p0), .unset, .unset, .unset, .unset, .unset] [(.ref a1)])) (fun t kt => st24 t kt) ?_
  refine Go.st (S' := T24.setTop (mkF m 42 #[.val (.int p0), .unset, .unset, .unset, .unset, .unset] [(.ref a1), (.ref a1)])) (fun t kt => XS.dup X24.here hx rfl (hb hby at_41) rfl rfl kt) ?_
  refine Go.st (S' := T24.setTop (mkF m 44 #[.val (.int p0), .unset, .unset, .unset, .unset, .unset] [(.int (6 : Int32)), (.ref a1), (.ref a1)])) (fun t kt => XT.bipushV X24.here hx rfl (6 : Int32) (hb hby at_42) (by decide) kt) ?_
  have f26 := (Sta.wr W24 (Sta.wr W20 (Sta.wr W16 (Sta.wr W12 (Sta.wr W8 (Sta.wr W4 (S_b6.ext E1)))))))
  obtain ⟨T27, X27, e27, st27⟩ := getS X24 hx hZ (host := "") hown (hw _ (List.mem_of_getElem? (i := 16) rfl)) Via.refl e24 f26 (g := (mkF m 44 #[.val (.int p0), .unset, .unset, .unset, .unset, .unset] [(.int (6 : Int32)), (.ref a1), (.ref a1)])) rfl (hb hby at_44)
  refine Go.st (S' := T27.setTop (mkF m 47 #[.val (.int p0), .unset, .unset, .unset, .unset, .unset] [(.ref b6), (.int (6 : Int32)), (.ref a1), (.ref a1)])) (fun t kt => st27 t kt) ?_
  obtain ⟨cl28, Ar28, q28, S28, M28, H28, G28⟩ := id V24
  have f29 := (Exa.wr W24 (Exa.wr W20 (Exa.wr W16 (Exa.wr W12 (Exa.wr W8 (Exa.wr W4 (E_b6.ext E1)))))))
  obtain ⟨T28, h28, X28, e28, W28, st28⟩ := stR X27 hx hZ e27 Ar28 (j := (6 : Int32)) (inb_of S28 ⟨by decide, by decide⟩) rfl (Sto.ofV Ar28 q28 O1 (Ins.self f29)) (g := (mkF m 47 #[.val (.int p0), .unset, .unset, .unset, .unset, .unset] [(.ref b6), (.int (6 : Int32)), (.ref a1), (.ref a1)])) rfl rfl (hb hby at_47)
  have V28 : Arv Z h28 a1 k1 (.object "com/example/forecache/forecache/TableRules$Type") (9 : Int32) [(.ref b0), (.ref b1), (.ref b2), (.ref b3), (.ref b4), (.ref b5), (.ref b6), .null, .null] .null := Arv.set Ar28 q28 S28 M28 H28 G28 rfl W28 6 rfl (Nat.le_of_ble_eq_true rfl)
  have N28 := Fr.snoc X28 N24 (Nat.le_trans Z0 (Nat.le_of_eq g1.symm))
  have Z28 : n0 ≤ h28.size := by rw [Wr.size W28]; exact Z24
  refine Go.st (S' := T28.setTop (mkF m 48 #[.val (.int p0), .unset, .unset, .unset, .unset, .unset] [(.ref a1)])) (fun t kt => st28 t kt) ?_
  refine Go.st (S' := T28.setTop (mkF m 49 #[.val (.int p0), .unset, .unset, .unset, .unset, .unset] [(.ref a1), (.ref a1)])) (fun t kt => XS.dup X28.here hx rfl (hb hby at_48) rfl rfl kt) ?_
  refine Go.st (S' := T28.setTop (mkF m 51 #[.val (.int p0), .unset, .unset, .unset, .unset, .unset] [(.int (7 : Int32)), (.ref a1), (.ref a1)])) (fun t kt => XT.bipushV X28.here hx rfl (7 : Int32) (hb hby at_49) (by decide) kt) ?_
  have f30 := (Sta.wr W28 (Sta.wr W24 (Sta.wr W20 (Sta.wr W16 (Sta.wr W12 (Sta.wr W8 (Sta.wr W4 (S_b7.ext E1))))))))
  obtain ⟨T31, X31, e31, st31⟩ := getS X28 hx hZ (host := "") hown (hw _ (List.mem_of_getElem? (i := 18) rfl)) Via.refl e28 f30 (g := (mkF m 51 #[.val (.int p0), .unset, .unset, .unset, .unset, .unset] [(.int (7 : Int32)), (.ref a1), (.ref a1)])) rfl (hb hby at_51)
  refine Go.st (S' := T31.setTop (mkF m 54 #[.val (.int p0), .unset, .unset, .unset, .unset, .unset] [(.ref b7), (.int (7 : Int32)), (.ref a1), (.ref a1)])) (fun t kt => st31 t kt) ?_
  obtain ⟨cl32, Ar32, q32, S32, M32, H32, G32⟩ := id V28
  have f33 := (Exa.wr W28 (Exa.wr W24 (Exa.wr W20 (Exa.wr W16 (Exa.wr W12 (Exa.wr W8 (Exa.wr W4 (E_b7.ext E1))))))))
  obtain ⟨T32, h32, X32, e32, W32, st32⟩ := stR X31 hx hZ e31 Ar32 (j := (7 : Int32)) (inb_of S32 ⟨by decide, by decide⟩) rfl (Sto.ofV Ar32 q32 O1 (Ins.self f33)) (g := (mkF m 54 #[.val (.int p0), .unset, .unset, .unset, .unset, .unset] [(.ref b7), (.int (7 : Int32)), (.ref a1), (.ref a1)])) rfl rfl (hb hby at_54)
  have V32 : Arv Z h32 a1 k1 (.object "com/example/forecache/forecache/TableRules$Type") (9 : Int32) [(.ref b0), (.ref b1), (.ref b2), (.ref b3), (.ref b4), (.ref b5), (.ref b6), (.ref b7), .null] .null := Arv.set Ar32 q32 S32 M32 H32 G32 rfl W32 7 rfl (Nat.le_of_ble_eq_true rfl)
  have N32 := Fr.snoc X32 N28 (Nat.le_trans Z0 (Nat.le_of_eq g1.symm))
  have Z32 : n0 ≤ h32.size := by rw [Wr.size W32]; exact Z28
  refine Go.st (S' := T32.setTop (mkF m 55 #[.val (.int p0), .unset, .unset, .unset, .unset, .unset] [(.ref a1)])) (fun t kt => st32 t kt) ?_
  refine Go.st (S' := T32.setTop (mkF m 56 #[.val (.int p0), .unset, .unset, .unset, .unset, .unset] [(.ref a1), (.ref a1)])) (fun t kt => XS.dup X32.here hx rfl (hb hby at_55) rfl rfl kt) ?_
  refine Go.st (S' := T32.setTop (mkF m 58 #[.val (.int p0), .unset, .unset, .unset, .unset, .unset] [(.int (8 : Int32)), (.ref a1), (.ref a1)])) (fun t kt => XT.bipushV X32.here hx rfl (8 : Int32) (hb hby at_56) (by decide) kt) ?_
  have f34 := (Sta.wr W32 (Sta.wr W28 (Sta.wr W24 (Sta.wr W20 (Sta.wr W16 (Sta.wr W12 (Sta.wr W8 (Sta.wr W4 (S_b8.ext E1)))))))))
  obtain ⟨T35, X35, e35, st35⟩ := getS X32 hx hZ (host := "") hown (hw _ (List.mem_of_getElem? (i := 20) rfl)) Via.refl e32 f34 (g := (mkF m 58 #[.val (.int p0), .unset, .unset, .unset, .unset, .unset] [(.int (8 : Int32)), (.ref a1), (.ref a1)])) rfl (hb hby at_58)
  refine Go.st (S' := T35.setTop (mkF m 61 #[.val (.int p0), .unset, .unset, .unset, .unset, .unset] [(.ref b8), (.int (8 : Int32)), (.ref a1), (.ref a1)])) (fun t kt => st35 t kt) ?_
  obtain ⟨cl36, Ar36, q36, S36, M36, H36, G36⟩ := id V32
  have f37 := (Exa.wr W32 (Exa.wr W28 (Exa.wr W24 (Exa.wr W20 (Exa.wr W16 (Exa.wr W12 (Exa.wr W8 (Exa.wr W4 (E_b8.ext E1)))))))))
  obtain ⟨T36, h36, X36, e36, W36, st36⟩ := stR X35 hx hZ e35 Ar36 (j := (8 : Int32)) (inb_of S36 ⟨by decide, by decide⟩) rfl (Sto.ofV Ar36 q36 O1 (Ins.self f37)) (g := (mkF m 61 #[.val (.int p0), .unset, .unset, .unset, .unset, .unset] [(.ref b8), (.int (8 : Int32)), (.ref a1), (.ref a1)])) rfl rfl (hb hby at_61)
  have V36 : Arv Z h36 a1 k1 (.object "com/example/forecache/forecache/TableRules$Type") (9 : Int32) [(.ref b0), (.ref b1), (.ref b2), (.ref b3), (.ref b4), (.ref b5), (.ref b6), (.ref b7), (.ref b8)] .null := Arv.set Ar36 q36 S36 M36 H36 G36 rfl W36 8 rfl (Nat.le_of_ble_eq_true rfl)
  have N36 := Fr.snoc X36 N32 (Nat.le_trans Z0 (Nat.le_of_eq g1.symm))
  have Z36 : n0 ≤ h36.size := by rw [Wr.size W36]; exact Z32
  refine Go.st (S' := T36.setTop (mkF m 62 #[.val (.int p0), .unset, .unset, .unset, .unset, .unset] [(.ref a1)])) (fun t kt => st36 t kt) ?_
  refine Go.st (S' := T36.setTop (mkF m 63 #[.val (.int p0), .val (.ref a1), .unset, .unset, .unset, .unset] [])) (fun t kt => XS.astoreN X36.here hx rfl (hb hby at_62) rfl rfl rfl kt) ?_
  refine Go.st (S' := T36.setTop (mkF m 65 #[.val (.int p0), .val (.ref a1), .unset, .unset, .unset, .unset] [(.int (9 : Int32))])) (fun t kt => XT.bipushV X36.here hx rfl (9 : Int32) (hb hby at_63) (by decide) kt) ?_
  obtain ⟨T38, h38, k38, X38, e38, E38, A38, st38⟩ := newP X36 hx hZ (hw _ (List.mem_of_getElem? (i := 22) rfl)) e36 (g := (mkF m 65 #[.val (.int p0), .val (.ref a1), .unset, .unset, .unset, .unset] [(.int (9 : Int32))])) rfl (hb hby at_65) rfl (by decide) (cap := 9) (by decide) (by decide) (by decide) (by decide)
  obtain ⟨a38, g38⟩ : ∃ z, z = h36.size := ⟨_, rfl⟩
  rw [← g38] at A38 st38
  have V38 : Arv Z h38 a38 k38 .boolean (9 : Int32) [(.int (0 : Int32)), (.int (0 : Int32)), (.int (0 : Int32)), (.int (0 : Int32)), (.int (0 : Int32)), (.int (0 : Int32)), (.int (0 : Int32)), (.int (0 : Int32)), (.int (0 : Int32))] (.int (0 : Int32)) := Arv.pad (Arv.new A38 (by decide)) (pad_rep [] _ 9)
  have Z38 : n0 ≤ h38.size := Nat.le_trans Z36 E38.1
  have f39 := (Exa.wr W36 (Exa.wr W32 (Exa.wr W28 (Exa.wr W24 (Exa.wr W20 (Exa.wr W16 (Exa.wr W12 (Exa.wr W8 (Exa.wr W4 f5)))))))))
  have f40 := (Exa.wr W36 (Exa.wr W32 (Exa.wr W28 (Exa.wr W24 (Exa.wr W20 (Exa.wr W16 (Exa.wr W12 (Exa.wr W8 f9))))))))
  have f41 := (Exa.wr W36 (Exa.wr W32 (Exa.wr W28 (Exa.wr W24 (Exa.wr W20 (Exa.wr W16 (Exa.wr W12 f13)))))))
  have f42 := (Exa.wr W36 (Exa.wr W32 (Exa.wr W28 (Exa.wr W24 (Exa.wr W20 (Exa.wr W16 f17))))))
  have f43 := (Exa.wr W36 (Exa.wr W32 (Exa.wr W28 (Exa.wr W24 (Exa.wr W20 f21)))))
  have f44 := (Exa.wr W36 (Exa.wr W32 (Exa.wr W28 (Exa.wr W24 f25))))
  have f45 := (Exa.wr W36 (Exa.wr W32 (Exa.wr W28 f29)))
  have f46 := (Exa.wr W36 (Exa.wr W32 f33))
  have f47 := (Exa.wr W36 f37)
  refine Go.st (S' := T38.setTop (mkF m 67 #[.val (.int p0), .val (.ref a1), .unset, .unset, .unset, .unset] [(.ref a38)])) (fun t kt => st38 t kt) ?_
  refine Go.st (S' := T38.setTop (mkF m 68 #[.val (.int p0), .val (.ref a1), .unset, .unset, .unset, .unset] [(.ref a38), (.ref a38)])) (fun t kt => XS.dup X38.here hx rfl (hb hby at_67) rfl rfl kt) ?_
  refine Go.st (S' := T38.setTop (mkF m 69 #[.val (.int p0), .val (.ref a1), .unset, .unset, .unset, .unset] [(.int (0 : Int32)), (.ref a38), (.ref a38)])) (fun t kt => XS.iconst X38.here hx rfl (hb hby at_68) kt) ?_
  refine Go.st (S' := T38.setTop (mkF m 70 #[.val (.int p0), .val (.ref a1), .unset, .unset, .unset, .unset] [(.int (1 : Int32)), (.int (0 : Int32)), (.ref a38), (.ref a38)])) (fun t kt => XS.iconst X38.here hx rfl (hb hby at_69) kt) ?_
  obtain ⟨cl48, Ar48, q48, S48, M48, H48, G48⟩ := id V38
  obtain ⟨T48, h48, X48, e48, W48, st48⟩ := stZ X38 hx hZ e38 Ar48 (j := (0 : Int32)) (inb_of S48 ⟨by decide, by decide⟩)  (g := (mkF m 70 #[.val (.int p0), .val (.ref a1), .unset, .unset, .unset, .unset] [(.int (1 : Int32)), (.int (0 : Int32)), (.ref a38), (.ref a38)])) rfl rfl (hb hby at_70)
  have V48 : Arv Z h48 a38 k38 .boolean (9 : Int32) [(.int (1 : Int32)), (.int (0 : Int32)), (.int (0 : Int32)), (.int (0 : Int32)), (.int (0 : Int32)), (.int (0 : Int32)), (.int (0 : Int32)), (.int (0 : Int32)), (.int (0 : Int32))] (.int (0 : Int32)) := Arv.set Ar48 q48 S48 M48 H48 G48 (fits_nar_bool _) W48 0 rfl (Nat.le_of_ble_eq_true rfl)
  have N48 := Fr.snoc X48 N36 (Nat.le_trans Z36 (Nat.le_of_eq g38.symm))
  have Z48 : n0 ≤ h48.size := by rw [Wr.size W48]; exact Z38
  refine Go.st (S' := T48.setTop (mkF m 71 #[.val (.int p0), .val (.ref a1), .unset, .unset, .unset, .unset] [(.ref a38)])) (fun t kt => st48 t kt) ?_
  refine Go.st (S' := T48.setTop (mkF m 72 #[.val (.int p0), .val (.ref a1), .unset, .unset, .unset, .unset] [(.ref a38), (.ref a38)])) (fun t kt => XS.dup X48.here hx rfl (hb hby at_71) rfl rfl kt) ?_
  refine Go.st (S' := T48.setTop (mkF m 73 #[.val (.int p0), .val (.ref a1), .unset, .unset, .unset, .unset] [(.int (1 : Int32)), (.ref a38), (.ref a38)])) (fun t kt => XS.iconst X48.here hx rfl (hb hby at_72) kt) ?_
  refine Go.st (S' := T48.setTop (mkF m 74 #[.val (.int p0), .val (.ref a1), .unset, .unset, .unset, .unset] [(.int (1 : Int32)), (.int (1 : Int32)), (.ref a38), (.ref a38)])) (fun t kt => XS.iconst X48.here hx rfl (hb hby at_73) kt) ?_
  obtain ⟨cl49, Ar49, q49, S49, M49, H49, G49⟩ := id V48
  obtain ⟨T49, h49, X49, e49, W49, st49⟩ := stZ X48 hx hZ e48 Ar49 (j := (1 : Int32)) (inb_of S49 ⟨by decide, by decide⟩)  (g := (mkF m 74 #[.val (.int p0), .val (.ref a1), .unset, .unset, .unset, .unset] [(.int (1 : Int32)), (.int (1 : Int32)), (.ref a38), (.ref a38)])) rfl rfl (hb hby at_74)
  have V49 : Arv Z h49 a38 k38 .boolean (9 : Int32) [(.int (1 : Int32)), (.int (1 : Int32)), (.int (0 : Int32)), (.int (0 : Int32)), (.int (0 : Int32)), (.int (0 : Int32)), (.int (0 : Int32)), (.int (0 : Int32)), (.int (0 : Int32))] (.int (0 : Int32)) := Arv.set Ar49 q49 S49 M49 H49 G49 (fits_nar_bool _) W49 1 rfl (Nat.le_of_ble_eq_true rfl)
  have N49 := Fr.snoc X49 N48 (Nat.le_trans Z36 (Nat.le_of_eq g38.symm))
  have Z49 : n0 ≤ h49.size := by rw [Wr.size W49]; exact Z48
  refine Go.st (S' := T49.setTop (mkF m 75 #[.val (.int p0), .val (.ref a1), .unset, .unset, .unset, .unset] [(.ref a38)])) (fun t kt => st49 t kt) ?_
  refine Go.st (S' := T49.setTop (mkF m 76 #[.val (.int p0), .val (.ref a1), .unset, .unset, .unset, .unset] [(.ref a38), (.ref a38)])) (fun t kt => XS.dup X49.here hx rfl (hb hby at_75) rfl rfl kt) ?_
  refine Go.st (S' := T49.setTop (mkF m 77 #[.val (.int p0), .val (.ref a1), .unset, .unset, .unset, .unset] [(.int (2 : Int32)), (.ref a38), (.ref a38)])) (fun t kt => XS.iconst X49.here hx rfl (hb hby at_76) kt) ?_
  refine Go.st (S' := T49.setTop (mkF m 78 #[.val (.int p0), .val (.ref a1), .unset, .unset, .unset, .unset] [(.int (1 : Int32)), (.int (2 : Int32)), (.ref a38), (.ref a38)])) (fun t kt => XS.iconst X49.here hx rfl (hb hby at_77) kt) ?_
  obtain ⟨cl50, Ar50, q50, S50, M50, H50, G50⟩ := id V49
  obtain ⟨T50, h50, X50, e50, W50, st50⟩ := stZ X49 hx hZ e49 Ar50 (j := (2 : Int32)) (inb_of S50 ⟨by decide, by decide⟩)  (g := (mkF m 78 #[.val (.int p0), .val (.ref a1), .unset, .unset, .unset, .unset] [(.int (1 : Int32)), (.int (2 : Int32)), (.ref a38), (.ref a38)])) rfl rfl (hb hby at_78)
  have V50 : Arv Z h50 a38 k38 .boolean (9 : Int32) [(.int (1 : Int32)), (.int (1 : Int32)), (.int (1 : Int32)), (.int (0 : Int32)), (.int (0 : Int32)), (.int (0 : Int32)), (.int (0 : Int32)), (.int (0 : Int32)), (.int (0 : Int32))] (.int (0 : Int32)) := Arv.set Ar50 q50 S50 M50 H50 G50 (fits_nar_bool _) W50 2 rfl (Nat.le_of_ble_eq_true rfl)
  have N50 := Fr.snoc X50 N49 (Nat.le_trans Z36 (Nat.le_of_eq g38.symm))
  have Z50 : n0 ≤ h50.size := by rw [Wr.size W50]; exact Z49
  refine Go.st (S' := T50.setTop (mkF m 79 #[.val (.int p0), .val (.ref a1), .unset, .unset, .unset, .unset] [(.ref a38)])) (fun t kt => st50 t kt) ?_
  refine Go.st (S' := T50.setTop (mkF m 80 #[.val (.int p0), .val (.ref a1), .unset, .unset, .unset, .unset] [(.ref a38), (.ref a38)])) (fun t kt => XS.dup X50.here hx rfl (hb hby at_79) rfl rfl kt) ?_
  refine Go.st (S' := T50.setTop (mkF m 81 #[.val (.int p0), .val (.ref a1), .unset, .unset, .unset, .unset] [(.int (3 : Int32)), (.ref a38), (.ref a38)])) (fun t kt => XS.iconst X50.here hx rfl (hb hby at_80) kt) ?_
  refine Go.st (S' := T50.setTop (mkF m 82 #[.val (.int p0), .val (.ref a1), .unset, .unset, .unset, .unset] [(.int (0 : Int32)), (.int (3 : Int32)), (.ref a38), (.ref a38)])) (fun t kt => XS.iconst X50.here hx rfl (hb hby at_81) kt) ?_
  obtain ⟨cl51, Ar51, q51, S51, M51, H51, G51⟩ := id V50
  obtain ⟨T51, h51, X51, e51, W51, st51⟩ := stZ X50 hx hZ e50 Ar51 (j := (3 : Int32)) (inb_of S51 ⟨by decide, by decide⟩)  (g := (mkF m 82 #[.val (.int p0), .val (.ref a1), .unset, .unset, .unset, .unset] [(.int (0 : Int32)), (.int (3 : Int32)), (.ref a38), (.ref a38)])) rfl rfl (hb hby at_82)
  have V51 : Arv Z h51 a38 k38 .boolean (9 : Int32) [(.int (1 : Int32)), (.int (1 : Int32)), (.int (1 : Int32)), (.int (0 : Int32)), (.int (0 : Int32)), (.int (0 : Int32)), (.int (0 : Int32)), (.int (0 : Int32)), (.int (0 : Int32))] (.int (0 : Int32)) := Arv.set Ar51 q51 S51 M51 H51 G51 (fits_nar_bool _) W51 3 rfl (Nat.le_of_ble_eq_true rfl)
  have N51 := Fr.snoc X51 N50 (Nat.le_trans Z36 (Nat.le_of_eq g38.symm))
  have Z51 : n0 ≤ h51.size := by rw [Wr.size W51]; exact Z50
  refine Go.st (S' := T51.setTop (mkF m 83 #[.val (.int p0), .val (.ref a1), .unset, .unset, .unset, .unset] [(.ref a38)])) (fun t kt => st51 t kt) ?_
  refine Go.st (S' := T51.setTop (mkF m 84 #[.val (.int p0), .val (.ref a1), .unset, .unset, .unset, .unset] [(.ref a38), (.ref a38)])) (fun t kt => XS.dup X51.here hx rfl (hb hby at_83) rfl rfl kt) ?_
  refine Go.st (S' := T51.setTop (mkF m 85 #[.val (.int p0), .val (.ref a1), .unset, .unset, .unset, .unset] [(.int (4 : Int32)), (.ref a38), (.ref a38)])) (fun t kt => XS.iconst X51.here hx rfl (hb hby at_84) kt) ?_
  refine Go.st (S' := T51.setTop (mkF m 86 #[.val (.int p0), .val (.ref a1), .unset, .unset, .unset, .unset] [(.int (0 : Int32)), (.int (4 : Int32)), (.ref a38), (.ref a38)])) (fun t kt => XS.iconst X51.here hx rfl (hb hby at_85) kt) ?_
  obtain ⟨cl52, Ar52, q52, S52, M52, H52, G52⟩ := id V51
  obtain ⟨T52, h52, X52, e52, W52, st52⟩ := stZ X51 hx hZ e51 Ar52 (j := (4 : Int32)) (inb_of S52 ⟨by decide, by decide⟩)  (g := (mkF m 86 #[.val (.int p0), .val (.ref a1), .unset, .unset, .unset, .unset] [(.int (0 : Int32)), (.int (4 : Int32)), (.ref a38), (.ref a38)])) rfl rfl (hb hby at_86)
  have V52 : Arv Z h52 a38 k38 .boolean (9 : Int32) [(.int (1 : Int32)), (.int (1 : Int32)), (.int (1 : Int32)), (.int (0 : Int32)), (.int (0 : Int32)), (.int (0 : Int32)), (.int (0 : Int32)), (.int (0 : Int32)), (.int (0 : Int32))] (.int (0 : Int32)) := Arv.set Ar52 q52 S52 M52 H52 G52 (fits_nar_bool _) W52 4 rfl (Nat.le_of_ble_eq_true rfl)
  have N52 := Fr.snoc X52 N51 (Nat.le_trans Z36 (Nat.le_of_eq g38.symm))
  have Z52 : n0 ≤ h52.size := by rw [Wr.size W52]; exact Z51
  refine Go.st (S' := T52.setTop (mkF m 87 #[.val (.int p0), .val (.ref a1), .unset, .unset, .unset, .unset] [(.ref a38)])) (fun t kt => st52 t kt) ?_
  refine Go.st (S' := T52.setTop (mkF m 88 #[.val (.int p0), .val (.ref a1), .unset, .unset, .unset, .unset] [(.ref a38), (.ref a38)])) (fun t kt => XS.dup X52.here hx rfl (hb hby at_87) rfl rfl kt) ?_
  refine Go.st (S' := T52.setTop (mkF m 89 #[.val (.int p0), .val (.ref a1), .unset, .unset, .unset, .unset] [(.int (5 : Int32)), (.ref a38), (.ref a38)])) (fun t kt => XS.iconst X52.here hx rfl (hb hby at_88) kt) ?_
  refine Go.st (S' := T52.setTop (mkF m 90 #[.val (.int p0), .val (.ref a1), .unset, .unset, .unset, .unset] [(.int (0 : Int32)), (.int (5 : Int32)), (.ref a38), (.ref a38)])) (fun t kt => XS.iconst X52.here hx rfl (hb hby at_89) kt) ?_
  obtain ⟨cl53, Ar53, q53, S53, M53, H53, G53⟩ := id V52
  obtain ⟨T53, h53, X53, e53, W53, st53⟩ := stZ X52 hx hZ e52 Ar53 (j := (5 : Int32)) (inb_of S53 ⟨by decide, by decide⟩)  (g := (mkF m 90 #[.val (.int p0), .val (.ref a1), .unset, .unset, .unset, .unset] [(.int (0 : Int32)), (.int (5 : Int32)), (.ref a38), (.ref a38)])) rfl rfl (hb hby at_90)
  have V53 : Arv Z h53 a38 k38 .boolean (9 : Int32) [(.int (1 : Int32)), (.int (1 : Int32)), (.int (1 : Int32)), (.int (0 : Int32)), (.int (0 : Int32)), (.int (0 : Int32)), (.int (0 : Int32)), (.int (0 : Int32)), (.int (0 : Int32))] (.int (0 : Int32)) := Arv.set Ar53 q53 S53 M53 H53 G53 (fits_nar_bool _) W53 5 rfl (Nat.le_of_ble_eq_true rfl)
  have N53 := Fr.snoc X53 N52 (Nat.le_trans Z36 (Nat.le_of_eq g38.symm))
  have Z53 : n0 ≤ h53.size := by rw [Wr.size W53]; exact Z52
  refine Go.st (S' := T53.setTop (mkF m 91 #[.val (.int p0), .val (.ref a1), .unset, .unset, .unset, .unset] [(.ref a38)])) (fun t kt => st53 t kt) ?_
  refine Go.st (S' := T53.setTop (mkF m 92 #[.val (.int p0), .val (.ref a1), .unset, .unset, .unset, .unset] [(.ref a38), (.ref a38)])) (fun t kt => XS.dup X53.here hx rfl (hb hby at_91) rfl rfl kt) ?_
  refine Go.st (S' := T53.setTop (mkF m 94 #[.val (.int p0), .val (.ref a1), .unset, .unset, .unset, .unset] [(.int (6 : Int32)), (.ref a38), (.ref a38)])) (fun t kt => XT.bipushV X53.here hx rfl (6 : Int32) (hb hby at_92) (by decide) kt) ?_
  refine Go.st (S' := T53.setTop (mkF m 95 #[.val (.int p0), .val (.ref a1), .unset, .unset, .unset, .unset] [(.int (0 : Int32)), (.int (6 : Int32)), (.ref a38), (.ref a38)])) (fun t kt => XS.iconst X53.here hx rfl (hb hby at_94) kt) ?_
  obtain ⟨cl54, Ar54, q54, S54, M54, H54, G54⟩ := id V53
  obtain ⟨T54, h54, X54, e54, W54, st54⟩ := stZ X53 hx hZ e53 Ar54 (j := (6 : Int32)) (inb_of S54 ⟨by decide, by decide⟩)  (g := (mkF m 95 #[.val (.int p0), .val (.ref a1), .unset, .unset, .unset, .unset] [(.int (0 : Int32)), (.int (6 : Int32)), (.ref a38), (.ref a38)])) rfl rfl (hb hby at_95)
  have V54 : Arv Z h54 a38 k38 .boolean (9 : Int32) [(.int (1 : Int32)), (.int (1 : Int32)), (.int (1 : Int32)), (.int (0 : Int32)), (.int (0 : Int32)), (.int (0 : Int32)), (.int (0 : Int32)), (.int (0 : Int32)), (.int (0 : Int32))] (.int (0 : Int32)) := Arv.set Ar54 q54 S54 M54 H54 G54 (fits_nar_bool _) W54 6 rfl (Nat.le_of_ble_eq_true rfl)
  have N54 := Fr.snoc X54 N53 (Nat.le_trans Z36 (Nat.le_of_eq g38.symm))
  have Z54 : n0 ≤ h54.size := by rw [Wr.size W54]; exact Z53
  refine Go.st (S' := T54.setTop (mkF m 96 #[.val (.int p0), .val (.ref a1), .unset, .unset, .unset, .unset] [(.ref a38)])) (fun t kt => st54 t kt) ?_
  refine Go.st (S' := T54.setTop (mkF m 97 #[.val (.int p0), .val (.ref a1), .unset, .unset, .unset, .unset] [(.ref a38), (.ref a38)])) (fun t kt => XS.dup X54.here hx rfl (hb hby at_96) rfl rfl kt) ?_
  refine Go.st (S' := T54.setTop (mkF m 99 #[.val (.int p0), .val (.ref a1), .unset, .unset, .unset, .unset] [(.int (7 : Int32)), (.ref a38), (.ref a38)])) (fun t kt => XT.bipushV X54.here hx rfl (7 : Int32) (hb hby at_97) (by decide) kt) ?_
  refine Go.st (S' := T54.setTop (mkF m 100 #[.val (.int p0), .val (.ref a1), .unset, .unset, .unset, .unset] [(.int (0 : Int32)), (.int (7 : Int32)), (.ref a38), (.ref a38)])) (fun t kt => XS.iconst X54.here hx rfl (hb hby at_99) kt) ?_
  obtain ⟨cl55, Ar55, q55, S55, M55, H55, G55⟩ := id V54
  obtain ⟨T55, h55, X55, e55, W55, st55⟩ := stZ X54 hx hZ e54 Ar55 (j := (7 : Int32)) (inb_of S55 ⟨by decide, by decide⟩)  (g := (mkF m 100 #[.val (.int p0), .val (.ref a1), .unset, .unset, .unset, .unset] [(.int (0 : Int32)), (.int (7 : Int32)), (.ref a38), (.ref a38)])) rfl rfl (hb hby at_100)
  have V55 : Arv Z h55 a38 k38 .boolean (9 : Int32) [(.int (1 : Int32)), (.int (1 : Int32)), (.int (1 : Int32)), (.int (0 : Int32)), (.int (0 : Int32)), (.int (0 : Int32)), (.int (0 : Int32)), (.int (0 : Int32)), (.int (0 : Int32))] (.int (0 : Int32)) := Arv.set Ar55 q55 S55 M55 H55 G55 (fits_nar_bool _) W55 7 rfl (Nat.le_of_ble_eq_true rfl)
  have N55 := Fr.snoc X55 N54 (Nat.le_trans Z36 (Nat.le_of_eq g38.symm))
  have Z55 : n0 ≤ h55.size := by rw [Wr.size W55]; exact Z54
  refine Go.st (S' := T55.setTop (mkF m 101 #[.val (.int p0), .val (.ref a1), .unset, .unset, .unset, .unset] [(.ref a38)])) (fun t kt => st55 t kt) ?_
  refine Go.st (S' := T55.setTop (mkF m 102 #[.val (.int p0), .val (.ref a1), .unset, .unset, .unset, .unset] [(.ref a38), (.ref a38)])) (fun t kt => XS.dup X55.here hx rfl (hb hby at_101) rfl rfl kt) ?_
  refine Go.st (S' := T55.setTop (mkF m 104 #[.val (.int p0), .val (.ref a1), .unset, .unset, .unset, .unset] [(.int (8 : Int32)), (.ref a38), (.ref a38)])) (fun t kt => XT.bipushV X55.here hx rfl (8 : Int32) (hb hby at_102) (by decide) kt) ?_
  refine Go.st (S' := T55.setTop (mkF m 105 #[.val (.int p0), .val (.ref a1), .unset, .unset, .unset, .unset] [(.int (0 : Int32)), (.int (8 : Int32)), (.ref a38), (.ref a38)])) (fun t kt => XS.iconst X55.here hx rfl (hb hby at_104) kt) ?_
  obtain ⟨cl56, Ar56, q56, S56, M56, H56, G56⟩ := id V55
  obtain ⟨T56, h56, X56, e56, W56, st56⟩ := stZ X55 hx hZ e55 Ar56 (j := (8 : Int32)) (inb_of S56 ⟨by decide, by decide⟩)  (g := (mkF m 105 #[.val (.int p0), .val (.ref a1), .unset, .unset, .unset, .unset] [(.int (0 : Int32)), (.int (8 : Int32)), (.ref a38), (.ref a38)])) rfl rfl (hb hby at_105)
  have V56 : Arv Z h56 a38 k38 .boolean (9 : Int32) [(.int (1 : Int32)), (.int (1 : Int32)), (.int (1 : Int32)), (.int (0 : Int32)), (.int (0 : Int32)), (.int (0 : Int32)), (.int (0 : Int32)), (.int (0 : Int32)), (.int (0 : Int32))] (.int (0 : Int32)) := Arv.set Ar56 q56 S56 M56 H56 G56 (fits_nar_bool _) W56 8 rfl (Nat.le_of_ble_eq_true rfl)
  have N56 := Fr.snoc X56 N55 (Nat.le_trans Z36 (Nat.le_of_eq g38.symm))
  have Z56 : n0 ≤ h56.size := by rw [Wr.size W56]; exact Z55
  refine Go.st (S' := T56.setTop (mkF m 106 #[.val (.int p0), .val (.ref a1), .unset, .unset, .unset, .unset] [(.ref a38)])) (fun t kt => st56 t kt) ?_
  refine Go.st (S' := T56.setTop (mkF m 107 #[.val (.int p0), .val (.ref a1), .val (.ref a38), .unset, .unset, .unset] [])) (fun t kt => XS.astoreN X56.here hx rfl (hb hby at_106) rfl rfl rfl kt) ?_
  refine Go.st (S' := T56.setTop (mkF m 108 #[.val (.int p0), .val (.ref a1), .val (.ref a38), .unset, .unset, .unset] [(.int p0)])) (fun t kt => XS.iloadN X56.here hx rfl (hb hby at_107) rfl kt) ?_
  refine Go.st (S' := T56.setTop (mkF m 110 #[.val (.int p0), .val (.ref a1), .val (.ref a38), .unset, .unset, .unset] [(.int (2147483647 : Int32)), (.int p0)])) (fun t kt => X56.ldcI hx hown (mv hZ (hw _ (List.mem_of_getElem? (i := 23) rfl))) rfl (hb hby at_108) kt) ?_
  refine Go.st (S' := T56.setTop (mkF m 111 #[.val (.int p0), .val (.ref a1), .val (.ref a38), .unset, .unset, .unset] [(.int (p0 &&& (2147483647 : Int32)))])) (fun t kt => XS.iand X56.here hx rfl (hb hby at_110) rfl kt) ?_
  refine Go.st (S' := T56.setTop (mkF m 113 #[.val (.int p0), .val (.ref a1), .val (.ref a38), .unset, .unset, .unset] [(.int (9 : Int32)), (.int (p0 &&& (2147483647 : Int32)))])) (fun t kt => XT.bipushV X56.here hx rfl (9 : Int32) (hb hby at_111) (by decide) kt) ?_
  refine Go.st (S' := T56.setTop (mkF m 114 #[.val (.int p0), .val (.ref a1), .val (.ref a38), .unset, .unset, .unset] [(.int ((p0 &&& (2147483647 : Int32)) % (9 : Int32)))])) (fun t kt => iremM X56 hx rfl (hb hby at_113) rfl (by decide) kt) ?_
  refine Go.st (S' := T56.setTop (mkF m 115 #[.val (.int p0), .val (.ref a1), .val (.ref a38), .val (.int ((p0 &&& (2147483647 : Int32)) % (9 : Int32))), .unset, .unset] [])) (fun t kt => XS.istoreN X56.here hx rfl (hb hby at_114) rfl rfl kt) ?_
  rcases own_mod9 p0 with hi0 | hi1 | hi2 | hi3 | hi4 | hi5 | hi6 | hi7 | hi8
  · rw [hi0]
    show Go pP eE below _ (T56.setTop (mkF m 115 #[.val (.int p0), .val (.ref a1), .val (.ref a38), .val (.int (0 : Int32)), .unset, .unset] []))
    refine Go.st (S' := T56.setTop (mkF m 116 #[.val (.int p0), .val (.ref a1), .val (.ref a38), .val (.int (0 : Int32)), .unset, .unset] [(.ref a1)])) (fun t kt => XS.aloadN X56.here hx rfl (hb hby at_115) rfl rfl kt) ?_
    refine Go.st (S' := T56.setTop (mkF m 117 #[.val (.int p0), .val (.ref a1), .val (.ref a38), .val (.int (0 : Int32)), .unset, .unset] [(.int (0 : Int32)), (.ref a1)])) (fun t kt => XS.iloadN X56.here hx rfl (hb hby at_116) rfl kt) ?_
    have f58 := ((((((((((V36.ext E38).other W48 (Nat.ne_of_lt (by rw [g38]; exact V36.lt))).other W49 (Nat.ne_of_lt (by rw [g38]; exact V36.lt))).other W50 (Nat.ne_of_lt (by rw [g38]; exact V36.lt))).other W51 (Nat.ne_of_lt (by rw [g38]; exact V36.lt))).other W52 (Nat.ne_of_lt (by rw [g38]; exact V36.lt))).other W53 (Nat.ne_of_lt (by rw [g38]; exact V36.lt))).other W54 (Nat.ne_of_lt (by rw [g38]; exact V36.lt))).other W55 (Nat.ne_of_lt (by rw [g38]; exact V36.lt))).other W56 (Nat.ne_of_lt (by rw [g38]; exact V36.lt)))
    obtain ⟨cl57, Ar57, q57, S57, M57, H57, G57⟩ := id f58
    refine Go.st (S' := T56.setTop (mkF m 118 #[.val (.int p0), .val (.ref a1), .val (.ref a38), .val (.int (0 : Int32)), .unset, .unset] [(.ref b0)])) (fun t kt => X56.aaload hx (j := (0 : Int32)) (v := (.ref b0)) (by rw [e56]; exact Ar57.1) (State.isArrayOf_alike hZ.alike Ar57.2.1) rfl Ar57.2.2 (inb_of S57 ⟨by decide, by decide⟩) (Has.at H57 (inb_of S57 ⟨by decide, by decide⟩) rfl) (g := (mkF m 117 #[.val (.int p0), .val (.ref a1), .val (.ref a38), .val (.int (0 : Int32)), .unset, .unset] [(.int (0 : Int32)), (.ref a1)])) rfl rfl (hb hby at_117) t kt) ?_
    refine Go.st (S' := T56.setTop (mkF m 120 #[.val (.int p0), .val (.ref a1), .val (.ref a38), .val (.int (0 : Int32)), .val (.ref b0), .unset] [])) (fun t kt => XS.astore X56.here hx rfl (hb hby at_118) rfl rfl rfl kt) ?_
    refine Go.st (S' := T56.setTop (mkF m 122 #[.val (.int p0), .val (.ref a1), .val (.ref a38), .val (.int (0 : Int32)), .val (.ref b0), .unset] [(.ref b0)])) (fun t kt => XS.aload X56.here hx rfl (hb hby at_120) rfl rfl kt) ?_
    have f59 := (Sta.wr W56 (Sta.wr W55 (Sta.wr W54 (Sta.wr W53 (Sta.wr W52 (Sta.wr W51 (Sta.wr W50 (Sta.wr W49 (Sta.wr W48 ((Sta.wr W36 (Sta.wr W32 (Sta.wr W28 (Sta.wr W24 (Sta.wr W20 (Sta.wr W16 (Sta.wr W12 (Sta.wr W8 (Sta.wr W4 f2))))))))).ext E38))))))))))
    have f60 := (Sta.wr W56 (Sta.wr W55 (Sta.wr W54 (Sta.wr W53 (Sta.wr W52 (Sta.wr W51 (Sta.wr W50 (Sta.wr W49 (Sta.wr W48 ((Sta.wr W36 (Sta.wr W32 (Sta.wr W28 (Sta.wr W24 (Sta.wr W20 (Sta.wr W16 (Sta.wr W12 (Sta.wr W8 f6)))))))).ext E38))))))))))
    have f61 := (Sta.wr W56 (Sta.wr W55 (Sta.wr W54 (Sta.wr W53 (Sta.wr W52 (Sta.wr W51 (Sta.wr W50 (Sta.wr W49 (Sta.wr W48 ((Sta.wr W36 (Sta.wr W32 (Sta.wr W28 (Sta.wr W24 (Sta.wr W20 (Sta.wr W16 (Sta.wr W12 f10))))))).ext E38))))))))))
    have f63 := (Exa.wr W56 (Exa.wr W55 (Exa.wr W54 (Exa.wr W53 (Exa.wr W52 (Exa.wr W51 (Exa.wr W50 (Exa.wr W49 (Exa.wr W48 (f39.ext E38))))))))))
    refine Go.virt X56 hx hZ hown (hw _ (List.mem_of_getElem? (i := 24) rfl)) (hw _ (List.mem_of_getElem? (i := 25) rfl)) (notFace_of_selects (mvT (args := #[]) hZ (hw _ (List.mem_of_getElem? (i := 27) rfl)))) (hw _ (List.mem_of_getElem? (i := 27) rfl)) (hw _ (List.mem_of_getElem? (i := 26) rfl)) (hw _ (List.mem_of_getElem? (i := 28) rfl)) (hw _ (List.mem_of_getElem? (i := 3) rfl)) (by decide) (b := b0) (argsL := []) (rest := []) (rm1 l Z a0 hw b0 b0 b1 b2 (1 : Int32) h56 n0 Z56 f59 f60 f61 (by simp)) e56 f63 rfl (by rw [hml]; rfl) pd___Z rfl (hb hby at_122) 0 (Nat.le_refl _) (by decide) (by decide) (by decide) (by decide) ?_
    intro v62 T62 L62 X62 hQ62
    obtain ⟨hv62, N62', e62⟩ := hQ62
    subst hv62
    have N62 := Fr.app N56 N62'
    show Go pP eE below _ (T62.setTop (mkF m 125 #[.val (.int p0), .val (.ref a1), .val (.ref a38), .val (.int (0 : Int32)), .val (.ref b0), .unset] [(.int (1 : Int32))]))
    refine Go.st (S' := T62.setTop (mkF m 127 #[.val (.int p0), .val (.ref a1), .val (.ref a38), .val (.int (0 : Int32)), .val (.ref b0), .val (.int (1 : Int32))] [])) (fun t kt => XS.istore X62.here hx rfl (hb hby at_125) rfl rfl kt) ?_
    refine Go.st (S' := T62.setTop (mkF m 129 #[.val (.int p0), .val (.ref a1), .val (.ref a38), .val (.int (0 : Int32)), .val (.ref b0), .val (.int (1 : Int32))] [(.int (1 : Int32))])) (fun t kt => XS.iload X62.here hx rfl (hb hby at_127) rfl kt) ?_
    refine Go.st (S' := T62.setTop (mkF m 130 #[.val (.int p0), .val (.ref a1), .val (.ref a38), .val (.int (0 : Int32)), .val (.ref b0), .val (.int (1 : Int32))] [(.ref a38), (.int (1 : Int32))])) (fun t kt => XS.aloadN X62.here hx rfl (hb hby at_129) rfl rfl kt) ?_
    refine Go.st (S' := T62.setTop (mkF m 131 #[.val (.int p0), .val (.ref a1), .val (.ref a38), .val (.int (0 : Int32)), .val (.ref b0), .val (.int (1 : Int32))] [(.int (0 : Int32)), (.ref a38), (.int (1 : Int32))])) (fun t kt => XS.iloadN X62.here hx rfl (hb hby at_130) rfl kt) ?_
    obtain ⟨cl64, Ar64, q64, S64, M64, H64, G64⟩ := id V56
    refine Go.st (S' := T62.setTop (mkF m 132 #[.val (.int p0), .val (.ref a1), .val (.ref a38), .val (.int (0 : Int32)), .val (.ref b0), .val (.int (1 : Int32))] [(.int (1 : Int32)), (.int (1 : Int32))])) (fun t kt => X62.baloadBooleans hx (j := (0 : Int32)) (v := (.int (1 : Int32))) (by rw [e62]; exact Ar64.1) (State.isArrayOf_alike hZ.alike Ar64.2.1) Ar64.2.2 (inb_of S64 ⟨by decide, by decide⟩) (Has.at H64 (inb_of S64 ⟨by decide, by decide⟩) rfl) (g := (mkF m 131 #[.val (.int p0), .val (.ref a1), .val (.ref a38), .val (.int (0 : Int32)), .val (.ref b0), .val (.int (1 : Int32))] [(.int (0 : Int32)), (.ref a38), (.int (1 : Int32))])) rfl rfl (hb hby at_131) t kt) ?_
    refine Go.st (S' := T62.setTop (mkF m 135 #[.val (.int p0), .val (.ref a1), .val (.ref a38), .val (.int (0 : Int32)), .val (.ref b0), .val (.int (1 : Int32))] [])) (fun t kt => XS.icmpNo X62.here hx rfl (hb hby at_132) rfl (XT.ii_ne_f (by decide)) kt) ?_
    refine Go.st (S' := T62.setTop (mkF m 137 #[.val (.int p0), .val (.ref a1), .val (.ref a38), .val (.int (0 : Int32)), .val (.ref b0), .val (.int (1 : Int32))] [(.int (1 : Int32))])) (fun t kt => XS.iload X62.here hx rfl (hb hby at_135) rfl kt) ?_
    refine Go.st (S' := T62.setTop (mkF m 140 #[.val (.int p0), .val (.ref a1), .val (.ref a38), .val (.int (0 : Int32)), .val (.ref b0), .val (.int (1 : Int32))] [])) (fun t kt => XS.ifNo X62.here hx rfl (hb hby at_137) rfl (XT.i0_eq_f (by decide)) kt) ?_
    refine Go.st (S' := T62.setTop (mkF m 142 #[.val (.int p0), .val (.ref a1), .val (.ref a38), .val (.int (0 : Int32)), .val (.ref b0), .val (.int (1 : Int32))] [(.ref b0)])) (fun t kt => XS.aload X62.here hx rfl (hb hby at_140) rfl rfl kt) ?_
    have f65 := (Sta.wr W56 (Sta.wr W55 (Sta.wr W54 (Sta.wr W53 (Sta.wr W52 (Sta.wr W51 (Sta.wr W50 (Sta.wr W49 (Sta.wr W48 ((Sta.wr W36 (Sta.wr W32 (Sta.wr W28 (Sta.wr W24 (Sta.wr W20 f18))))).ext E38))))))))))
    have f66 := (Sta.wr W56 (Sta.wr W55 (Sta.wr W54 (Sta.wr W53 (Sta.wr W52 (Sta.wr W51 (Sta.wr W50 (Sta.wr W49 (Sta.wr W48 ((Sta.wr W36 (Sta.wr W32 (Sta.wr W28 (Sta.wr W24 f22)))).ext E38))))))))))
    refine Go.virt X62 hx hZ hown (hw _ (List.mem_of_getElem? (i := 30) rfl)) (hw _ (List.mem_of_getElem? (i := 31) rfl)) (notFace_of_selects (mvT (args := #[]) hZ (hw _ (List.mem_of_getElem? (i := 33) rfl)))) (hw _ (List.mem_of_getElem? (i := 33) rfl)) (hw _ (List.mem_of_getElem? (i := 32) rfl)) (hw _ (List.mem_of_getElem? (i := 34) rfl)) (hw _ (List.mem_of_getElem? (i := 3) rfl)) (by decide) (b := b0) (argsL := []) (rest := []) (rm2 l Z a0 hw b0 b4 b5 (0 : Int32) h56 n0 Z56 f65 f66 (by simp [d04, d05])) e62 f63 rfl (by rw [hml]; rfl) pd___Z rfl (hb hby at_142) 0 (Nat.le_refl _) (by decide) (by decide) (by decide) (by decide) ?_
    intro v67 T67 L67 X67 hQ67
    obtain ⟨hv67, N67', e67⟩ := hQ67
    subst hv67
    have N67 := Fr.app N62 N67'
    show Go pP eE below _ (T67.setTop (mkF m 145 #[.val (.int p0), .val (.ref a1), .val (.ref a38), .val (.int (0 : Int32)), .val (.ref b0), .val (.int (1 : Int32))] [(.int (0 : Int32))]))
    refine Go.st (S' := T67.setTop (mkF m 148 #[.val (.int p0), .val (.ref a1), .val (.ref a38), .val (.int (0 : Int32)), .val (.ref b0), .val (.int (1 : Int32))] [])) (fun t kt => XS.ifNo X67.here hx rfl (hb hby at_145) rfl (XT.i0_ne_f (by decide)) kt) ?_
    refine Go.st (S' := T67.setTop (mkF m 149 #[.val (.int p0), .val (.ref a1), .val (.ref a38), .val (.int (0 : Int32)), .val (.ref b0), .val (.int (1 : Int32))] [(.int (1 : Int32))])) (fun t kt => XS.iconst X67.here hx rfl (hb hby at_148) kt) ?_
    refine Go.st (S' := T67.setTop (mkF m 153 #[.val (.int p0), .val (.ref a1), .val (.ref a38), .val (.int (0 : Int32)), .val (.ref b0), .val (.int (1 : Int32))] [(.int (1 : Int32))])) (fun t kt => XS.goto X67.here hx rfl (pc0 := 149) (pc' := 153) rfl (hb hby at_149) (by decide) (by decide) kt) ?_
    exact ret_b X67 hx hlk hret (hb hby at_153) (by decide) (by decide) (⟨rfl, N67⟩)
  · rw [hi1]
    show Go pP eE below _ (T56.setTop (mkF m 115 #[.val (.int p0), .val (.ref a1), .val (.ref a38), .val (.int (1 : Int32)), .unset, .unset] []))
    refine Go.st (S' := T56.setTop (mkF m 116 #[.val (.int p0), .val (.ref a1), .val (.ref a38), .val (.int (1 : Int32)), .unset, .unset] [(.ref a1)])) (fun t kt => XS.aloadN X56.here hx rfl (hb hby at_115) rfl rfl kt) ?_
    refine Go.st (S' := T56.setTop (mkF m 117 #[.val (.int p0), .val (.ref a1), .val (.ref a38), .val (.int (1 : Int32)), .unset, .unset] [(.int (1 : Int32)), (.ref a1)])) (fun t kt => XS.iloadN X56.here hx rfl (hb hby at_116) rfl kt) ?_
    have f69 := ((((((((((V36.ext E38).other W48 (Nat.ne_of_lt (by rw [g38]; exact V36.lt))).other W49 (Nat.ne_of_lt (by rw [g38]; exact V36.lt))).other W50 (Nat.ne_of_lt (by rw [g38]; exact V36.lt))).other W51 (Nat.ne_of_lt (by rw [g38]; exact V36.lt))).other W52 (Nat.ne_of_lt (by rw [g38]; exact V36.lt))).other W53 (Nat.ne_of_lt (by rw [g38]; exact V36.lt))).other W54 (Nat.ne_of_lt (by rw [g38]; exact V36.lt))).other W55 (Nat.ne_of_lt (by rw [g38]; exact V36.lt))).other W56 (Nat.ne_of_lt (by rw [g38]; exact V36.lt)))
    obtain ⟨cl68, Ar68, q68, S68, M68, H68, G68⟩ := id f69
    refine Go.st (S' := T56.setTop (mkF m 118 #[.val (.int p0), .val (.ref a1), .val (.ref a38), .val (.int (1 : Int32)), .unset, .unset] [(.ref b1)])) (fun t kt => X56.aaload hx (j := (1 : Int32)) (v := (.ref b1)) (by rw [e56]; exact Ar68.1) (State.isArrayOf_alike hZ.alike Ar68.2.1) rfl Ar68.2.2 (inb_of S68 ⟨by decide, by decide⟩) (Has.at H68 (inb_of S68 ⟨by decide, by decide⟩) rfl) (g := (mkF m 117 #[.val (.int p0), .val (.ref a1), .val (.ref a38), .val (.int (1 : Int32)), .unset, .unset] [(.int (1 : Int32)), (.ref a1)])) rfl rfl (hb hby at_117) t kt) ?_
    refine Go.st (S' := T56.setTop (mkF m 120 #[.val (.int p0), .val (.ref a1), .val (.ref a38), .val (.int (1 : Int32)), .val (.ref b1), .unset] [])) (fun t kt => XS.astore X56.here hx rfl (hb hby at_118) rfl rfl rfl kt) ?_
    refine Go.st (S' := T56.setTop (mkF m 122 #[.val (.int p0), .val (.ref a1), .val (.ref a38), .val (.int (1 : Int32)), .val (.ref b1), .unset] [(.ref b1)])) (fun t kt => XS.aload X56.here hx rfl (hb hby at_120) rfl rfl kt) ?_
    have f70 := (Sta.wr W56 (Sta.wr W55 (Sta.wr W54 (Sta.wr W53 (Sta.wr W52 (Sta.wr W51 (Sta.wr W50 (Sta.wr W49 (Sta.wr W48 ((Sta.wr W36 (Sta.wr W32 (Sta.wr W28 (Sta.wr W24 (Sta.wr W20 (Sta.wr W16 (Sta.wr W12 (Sta.wr W8 (Sta.wr W4 f2))))))))).ext E38))))))))))
    have f71 := (Sta.wr W56 (Sta.wr W55 (Sta.wr W54 (Sta.wr W53 (Sta.wr W52 (Sta.wr W51 (Sta.wr W50 (Sta.wr W49 (Sta.wr W48 ((Sta.wr W36 (Sta.wr W32 (Sta.wr W28 (Sta.wr W24 (Sta.wr W20 (Sta.wr W16 (Sta.wr W12 (Sta.wr W8 f6)))))))).ext E38))))))))))
    have f72 := (Sta.wr W56 (Sta.wr W55 (Sta.wr W54 (Sta.wr W53 (Sta.wr W52 (Sta.wr W51 (Sta.wr W50 (Sta.wr W49 (Sta.wr W48 ((Sta.wr W36 (Sta.wr W32 (Sta.wr W28 (Sta.wr W24 (Sta.wr W20 (Sta.wr W16 (Sta.wr W12 f10))))))).ext E38))))))))))
    have f74 := (Exa.wr W56 (Exa.wr W55 (Exa.wr W54 (Exa.wr W53 (Exa.wr W52 (Exa.wr W51 (Exa.wr W50 (Exa.wr W49 (Exa.wr W48 (f40.ext E38))))))))))
    refine Go.virt X56 hx hZ hown (hw _ (List.mem_of_getElem? (i := 24) rfl)) (hw _ (List.mem_of_getElem? (i := 25) rfl)) (notFace_of_selects (mvT (args := #[]) hZ (hw _ (List.mem_of_getElem? (i := 27) rfl)))) (hw _ (List.mem_of_getElem? (i := 27) rfl)) (hw _ (List.mem_of_getElem? (i := 26) rfl)) (hw _ (List.mem_of_getElem? (i := 28) rfl)) (hw _ (List.mem_of_getElem? (i := 3) rfl)) (by decide) (b := b1) (argsL := []) (rest := []) (rm1 l Z a0 hw b1 b0 b1 b2 (1 : Int32) h56 n0 Z56 f70 f71 f72 (by simp)) e56 f74 rfl (by rw [hml]; rfl) pd___Z rfl (hb hby at_122) 0 (Nat.le_refl _) (by decide) (by decide) (by decide) (by decide) ?_
    intro v73 T73 L73 X73 hQ73
    obtain ⟨hv73, N73', e73⟩ := hQ73
    subst hv73
    have N73 := Fr.app N56 N73'
    show Go pP eE below _ (T73.setTop (mkF m 125 #[.val (.int p0), .val (.ref a1), .val (.ref a38), .val (.int (1 : Int32)), .val (.ref b1), .unset] [(.int (1 : Int32))]))
    refine Go.st (S' := T73.setTop (mkF m 127 #[.val (.int p0), .val (.ref a1), .val (.ref a38), .val (.int (1 : Int32)), .val (.ref b1), .val (.int (1 : Int32))] [])) (fun t kt => XS.istore X73.here hx rfl (hb hby at_125) rfl rfl kt) ?_
    refine Go.st (S' := T73.setTop (mkF m 129 #[.val (.int p0), .val (.ref a1), .val (.ref a38), .val (.int (1 : Int32)), .val (.ref b1), .val (.int (1 : Int32))] [(.int (1 : Int32))])) (fun t kt => XS.iload X73.here hx rfl (hb hby at_127) rfl kt) ?_
    refine Go.st (S' := T73.setTop (mkF m 130 #[.val (.int p0), .val (.ref a1), .val (.ref a38), .val (.int (1 : Int32)), .val (.ref b1), .val (.int (1 : Int32))] [(.ref a38), (.int (1 : Int32))])) (fun t kt => XS.aloadN X73.here hx rfl (hb hby at_129) rfl rfl kt) ?_
    refine Go.st (S' := T73.setTop (mkF m 131 #[.val (.int p0), .val (.ref a1), .val (.ref a38), .val (.int (1 : Int32)), .val (.ref b1), .val (.int (1 : Int32))] [(.int (1 : Int32)), (.ref a38), (.int (1 : Int32))])) (fun t kt => XS.iloadN X73.here hx rfl (hb hby at_130) rfl kt) ?_
    obtain ⟨cl75, Ar75, q75, S75, M75, H75, G75⟩ := id V56
    refine Go.st (S' := T73.setTop (mkF m 132 #[.val (.int p0), .val (.ref a1), .val (.ref a38), .val (.int (1 : Int32)), .val (.ref b1), .val (.int (1 : Int32))] [(.int (1 : Int32)), (.int (1 : Int32))])) (fun t kt => X73.baloadBooleans hx (j := (1 : Int32)) (v := (.int (1 : Int32))) (by rw [e73]; exact Ar75.1) (State.isArrayOf_alike hZ.alike Ar75.2.1) Ar75.2.2 (inb_of S75 ⟨by decide, by decide⟩) (Has.at H75 (inb_of S75 ⟨by decide, by decide⟩) rfl) (g := (mkF m 131 #[.val (.int p0), .val (.ref a1), .val (.ref a38), .val (.int (1 : Int32)), .val (.ref b1), .val (.int (1 : Int32))] [(.int (1 : Int32)), (.ref a38), (.int (1 : Int32))])) rfl rfl (hb hby at_131) t kt) ?_
    refine Go.st (S' := T73.setTop (mkF m 135 #[.val (.int p0), .val (.ref a1), .val (.ref a38), .val (.int (1 : Int32)), .val (.ref b1), .val (.int (1 : Int32))] [])) (fun t kt => XS.icmpNo X73.here hx rfl (hb hby at_132) rfl (XT.ii_ne_f (by decide)) kt) ?_
    refine Go.st (S' := T73.setTop (mkF m 137 #[.val (.int p0), .val (.ref a1), .val (.ref a38), .val (.int (1 : Int32)), .val (.ref b1), .val (.int (1 : Int32))] [(.int (1 : Int32))])) (fun t kt => XS.iload X73.here hx rfl (hb hby at_135) rfl kt) ?_
    refine Go.st (S' := T73.setTop (mkF m 140 #[.val (.int p0), .val (.ref a1), .val (.ref a38), .val (.int (1 : Int32)), .val (.ref b1), .val (.int (1 : Int32))] [])) (fun t kt => XS.ifNo X73.here hx rfl (hb hby at_137) rfl (XT.i0_eq_f (by decide)) kt) ?_
    refine Go.st (S' := T73.setTop (mkF m 142 #[.val (.int p0), .val (.ref a1), .val (.ref a38), .val (.int (1 : Int32)), .val (.ref b1), .val (.int (1 : Int32))] [(.ref b1)])) (fun t kt => XS.aload X73.here hx rfl (hb hby at_140) rfl rfl kt) ?_
    have f76 := (Sta.wr W56 (Sta.wr W55 (Sta.wr W54 (Sta.wr W53 (Sta.wr W52 (Sta.wr W51 (Sta.wr W50 (Sta.wr W49 (Sta.wr W48 ((Sta.wr W36 (Sta.wr W32 (Sta.wr W28 (Sta.wr W24 (Sta.wr W20 f18))))).ext E38))))))))))
    have f77 := (Sta.wr W56 (Sta.wr W55 (Sta.wr W54 (Sta.wr W53 (Sta.wr W52 (Sta.wr W51 (Sta.wr W50 (Sta.wr W49 (Sta.wr W48 ((Sta.wr W36 (Sta.wr W32 (Sta.wr W28 (Sta.wr W24 f22)))).ext E38))))))))))
    refine Go.virt X73 hx hZ hown (hw _ (List.mem_of_getElem? (i := 30) rfl)) (hw _ (List.mem_of_getElem? (i := 31) rfl)) (notFace_of_selects (mvT (args := #[]) hZ (hw _ (List.mem_of_getElem? (i := 33) rfl)))) (hw _ (List.mem_of_getElem? (i := 33) rfl)) (hw _ (List.mem_of_getElem? (i := 32) rfl)) (hw _ (List.mem_of_getElem? (i := 34) rfl)) (hw _ (List.mem_of_getElem? (i := 3) rfl)) (by decide) (b := b1) (argsL := []) (rest := []) (rm2 l Z a0 hw b1 b4 b5 (0 : Int32) h56 n0 Z56 f76 f77 (by simp [d14, d15])) e73 f74 rfl (by rw [hml]; rfl) pd___Z rfl (hb hby at_142) 0 (Nat.le_refl _) (by decide) (by decide) (by decide) (by decide) ?_
    intro v78 T78 L78 X78 hQ78
    obtain ⟨hv78, N78', e78⟩ := hQ78
    subst hv78
    have N78 := Fr.app N73 N78'
    show Go pP eE below _ (T78.setTop (mkF m 145 #[.val (.int p0), .val (.ref a1), .val (.ref a38), .val (.int (1 : Int32)), .val (.ref b1), .val (.int (1 : Int32))] [(.int (0 : Int32))]))
    refine Go.st (S' := T78.setTop (mkF m 148 #[.val (.int p0), .val (.ref a1), .val (.ref a38), .val (.int (1 : Int32)), .val (.ref b1), .val (.int (1 : Int32))] [])) (fun t kt => XS.ifNo X78.here hx rfl (hb hby at_145) rfl (XT.i0_ne_f (by decide)) kt) ?_
    refine Go.st (S' := T78.setTop (mkF m 149 #[.val (.int p0), .val (.ref a1), .val (.ref a38), .val (.int (1 : Int32)), .val (.ref b1), .val (.int (1 : Int32))] [(.int (1 : Int32))])) (fun t kt => XS.iconst X78.here hx rfl (hb hby at_148) kt) ?_
    refine Go.st (S' := T78.setTop (mkF m 153 #[.val (.int p0), .val (.ref a1), .val (.ref a38), .val (.int (1 : Int32)), .val (.ref b1), .val (.int (1 : Int32))] [(.int (1 : Int32))])) (fun t kt => XS.goto X78.here hx rfl (pc0 := 149) (pc' := 153) rfl (hb hby at_149) (by decide) (by decide) kt) ?_
    exact ret_b X78 hx hlk hret (hb hby at_153) (by decide) (by decide) (⟨rfl, N78⟩)
  · rw [hi2]
    show Go pP eE below _ (T56.setTop (mkF m 115 #[.val (.int p0), .val (.ref a1), .val (.ref a38), .val (.int (2 : Int32)), .unset, .unset] []))
    refine Go.st (S' := T56.setTop (mkF m 116 #[.val (.int p0), .val (.ref a1), .val (.ref a38), .val (.int (2 : Int32)), .unset, .unset] [(.ref a1)])) (fun t kt => XS.aloadN X56.here hx rfl (hb hby at_115) rfl rfl kt) ?_
    refine Go.st (S' := T56.setTop (mkF m 117 #[.val (.int p0), .val (.ref a1), .val (.ref a38), .val (.int (2 : Int32)), .unset, .unset] [(.int (2 : Int32)), (.ref a1)])) (fun t kt => XS.iloadN X56.here hx rfl (hb hby at_116) rfl kt) ?_
    have f80 := ((((((((((V36.ext E38).other W48 (Nat.ne_of_lt (by rw [g38]; exact V36.lt))).other W49 (Nat.ne_of_lt (by rw [g38]; exact V36.lt))).other W50 (Nat.ne_of_lt (by rw [g38]; exact V36.lt))).other W51 (Nat.ne_of_lt (by rw [g38]; exact V36.lt))).other W52 (Nat.ne_of_lt (by rw [g38]; exact V36.lt))).other W53 (Nat.ne_of_lt (by rw [g38]; exact V36.lt))).other W54 (Nat.ne_of_lt (by rw [g38]; exact V36.lt))).other W55 (Nat.ne_of_lt (by rw [g38]; exact V36.lt))).other W56 (Nat.ne_of_lt (by rw [g38]; exact V36.lt)))
    obtain ⟨cl79, Ar79, q79, S79, M79, H79, G79⟩ := id f80
    refine Go.st (S' := T56.setTop (mkF m 118 #[.val (.int p0), .val (.ref a1), .val (.ref a38), .val (.int (2 : Int32)), .unset, .unset] [(.ref b2)])) (fun t kt => X56.aaload hx (j := (2 : Int32)) (v := (.ref b2)) (by rw [e56]; exact Ar79.1) (State.isArrayOf_alike hZ.alike Ar79.2.1) rfl Ar79.2.2 (inb_of S79 ⟨by decide, by decide⟩) (Has.at H79 (inb_of S79 ⟨by decide, by decide⟩) rfl) (g := (mkF m 117 #[.val (.int p0), .val (.ref a1), .val (.ref a38), .val (.int (2 : Int32)), .unset, .unset] [(.int (2 : Int32)), (.ref a1)])) rfl rfl (hb hby at_117) t kt) ?_
    refine Go.st (S' := T56.setTop (mkF m 120 #[.val (.int p0), .val (.ref a1), .val (.ref a38), .val (.int (2 : Int32)), .val (.ref b2), .unset] [])) (fun t kt => XS.astore X56.here hx rfl (hb hby at_118) rfl rfl rfl kt) ?_
    refine Go.st (S' := T56.setTop (mkF m 122 #[.val (.int p0), .val (.ref a1), .val (.ref a38), .val (.int (2 : Int32)), .val (.ref b2), .unset] [(.ref b2)])) (fun t kt => XS.aload X56.here hx rfl (hb hby at_120) rfl rfl kt) ?_
    have f81 := (Sta.wr W56 (Sta.wr W55 (Sta.wr W54 (Sta.wr W53 (Sta.wr W52 (Sta.wr W51 (Sta.wr W50 (Sta.wr W49 (Sta.wr W48 ((Sta.wr W36 (Sta.wr W32 (Sta.wr W28 (Sta.wr W24 (Sta.wr W20 (Sta.wr W16 (Sta.wr W12 (Sta.wr W8 (Sta.wr W4 f2))))))))).ext E38))))))))))
    have f82 := (Sta.wr W56 (Sta.wr W55 (Sta.wr W54 (Sta.wr W53 (Sta.wr W52 (Sta.wr W51 (Sta.wr W50 (Sta.wr W49 (Sta.wr W48 ((Sta.wr W36 (Sta.wr W32 (Sta.wr W28 (Sta.wr W24 (Sta.wr W20 (Sta.wr W16 (Sta.wr W12 (Sta.wr W8 f6)))))))).ext E38))))))))))
    have f83 := (Sta.wr W56 (Sta.wr W55 (Sta.wr W54 (Sta.wr W53 (Sta.wr W52 (Sta.wr W51 (Sta.wr W50 (Sta.wr W49 (Sta.wr W48 ((Sta.wr W36 (Sta.wr W32 (Sta.wr W28 (Sta.wr W24 (Sta.wr W20 (Sta.wr W16 (Sta.wr W12 f10))))))).ext E38))))))))))
    have f85 := (Exa.wr W56 (Exa.wr W55 (Exa.wr W54 (Exa.wr W53 (Exa.wr W52 (Exa.wr W51 (Exa.wr W50 (Exa.wr W49 (Exa.wr W48 (f41.ext E38))))))))))
    refine Go.virt X56 hx hZ hown (hw _ (List.mem_of_getElem? (i := 24) rfl)) (hw _ (List.mem_of_getElem? (i := 25) rfl)) (notFace_of_selects (mvT (args := #[]) hZ (hw _ (List.mem_of_getElem? (i := 27) rfl)))) (hw _ (List.mem_of_getElem? (i := 27) rfl)) (hw _ (List.mem_of_getElem? (i := 26) rfl)) (hw _ (List.mem_of_getElem? (i := 28) rfl)) (hw _ (List.mem_of_getElem? (i := 3) rfl)) (by decide) (b := b2) (argsL := []) (rest := []) (rm1 l Z a0 hw b2 b0 b1 b2 (1 : Int32) h56 n0 Z56 f81 f82 f83 (by simp)) e56 f85 rfl (by rw [hml]; rfl) pd___Z rfl (hb hby at_122) 0 (Nat.le_refl _) (by decide) (by decide) (by decide) (by decide) ?_
    intro v84 T84 L84 X84 hQ84
    obtain ⟨hv84, N84', e84⟩ := hQ84
    subst hv84
    have N84 := Fr.app N56 N84'
    show Go pP eE below _ (T84.setTop (mkF m 125 #[.val (.int p0), .val (.ref a1), .val (.ref a38), .val (.int (2 : Int32)), .val (.ref b2), .unset] [(.int (1 : Int32))]))
    refine Go.st (S' := T84.setTop (mkF m 127 #[.val (.int p0), .val (.ref a1), .val (.ref a38), .val (.int (2 : Int32)), .val (.ref b2), .val (.int (1 : Int32))] [])) (fun t kt => XS.istore X84.here hx rfl (hb hby at_125) rfl rfl kt) ?_
    refine Go.st (S' := T84.setTop (mkF m 129 #[.val (.int p0), .val (.ref a1), .val (.ref a38), .val (.int (2 : Int32)), .val (.ref b2), .val (.int (1 : Int32))] [(.int (1 : Int32))])) (fun t kt => XS.iload X84.here hx rfl (hb hby at_127) rfl kt) ?_
    refine Go.st (S' := T84.setTop (mkF m 130 #[.val (.int p0), .val (.ref a1), .val (.ref a38), .val (.int (2 : Int32)), .val (.ref b2), .val (.int (1 : Int32))] [(.ref a38), (.int (1 : Int32))])) (fun t kt => XS.aloadN X84.here hx rfl (hb hby at_129) rfl rfl kt) ?_
    refine Go.st (S' := T84.setTop (mkF m 131 #[.val (.int p0), .val (.ref a1), .val (.ref a38), .val (.int (2 : Int32)), .val (.ref b2), .val (.int (1 : Int32))] [(.int (2 : Int32)), (.ref a38), (.int (1 : Int32))])) (fun t kt => XS.iloadN X84.here hx rfl (hb hby at_130) rfl kt) ?_
    obtain ⟨cl86, Ar86, q86, S86, M86, H86, G86⟩ := id V56
    refine Go.st (S' := T84.setTop (mkF m 132 #[.val (.int p0), .val (.ref a1), .val (.ref a38), .val (.int (2 : Int32)), .val (.ref b2), .val (.int (1 : Int32))] [(.int (1 : Int32)), (.int (1 : Int32))])) (fun t kt => X84.baloadBooleans hx (j := (2 : Int32)) (v := (.int (1 : Int32))) (by rw [e84]; exact Ar86.1) (State.isArrayOf_alike hZ.alike Ar86.2.1) Ar86.2.2 (inb_of S86 ⟨by decide, by decide⟩) (Has.at H86 (inb_of S86 ⟨by decide, by decide⟩) rfl) (g := (mkF m 131 #[.val (.int p0), .val (.ref a1), .val (.ref a38), .val (.int (2 : Int32)), .val (.ref b2), .val (.int (1 : Int32))] [(.int (2 : Int32)), (.ref a38), (.int (1 : Int32))])) rfl rfl (hb hby at_131) t kt) ?_
    refine Go.st (S' := T84.setTop (mkF m 135 #[.val (.int p0), .val (.ref a1), .val (.ref a38), .val (.int (2 : Int32)), .val (.ref b2), .val (.int (1 : Int32))] [])) (fun t kt => XS.icmpNo X84.here hx rfl (hb hby at_132) rfl (XT.ii_ne_f (by decide)) kt) ?_
    refine Go.st (S' := T84.setTop (mkF m 137 #[.val (.int p0), .val (.ref a1), .val (.ref a38), .val (.int (2 : Int32)), .val (.ref b2), .val (.int (1 : Int32))] [(.int (1 : Int32))])) (fun t kt => XS.iload X84.here hx rfl (hb hby at_135) rfl kt) ?_
    refine Go.st (S' := T84.setTop (mkF m 140 #[.val (.int p0), .val (.ref a1), .val (.ref a38), .val (.int (2 : Int32)), .val (.ref b2), .val (.int (1 : Int32))] [])) (fun t kt => XS.ifNo X84.here hx rfl (hb hby at_137) rfl (XT.i0_eq_f (by decide)) kt) ?_
    refine Go.st (S' := T84.setTop (mkF m 142 #[.val (.int p0), .val (.ref a1), .val (.ref a38), .val (.int (2 : Int32)), .val (.ref b2), .val (.int (1 : Int32))] [(.ref b2)])) (fun t kt => XS.aload X84.here hx rfl (hb hby at_140) rfl rfl kt) ?_
    have f87 := (Sta.wr W56 (Sta.wr W55 (Sta.wr W54 (Sta.wr W53 (Sta.wr W52 (Sta.wr W51 (Sta.wr W50 (Sta.wr W49 (Sta.wr W48 ((Sta.wr W36 (Sta.wr W32 (Sta.wr W28 (Sta.wr W24 (Sta.wr W20 f18))))).ext E38))))))))))
    have f88 := (Sta.wr W56 (Sta.wr W55 (Sta.wr W54 (Sta.wr W53 (Sta.wr W52 (Sta.wr W51 (Sta.wr W50 (Sta.wr W49 (Sta.wr W48 ((Sta.wr W36 (Sta.wr W32 (Sta.wr W28 (Sta.wr W24 f22)))).ext E38))))))))))
    refine Go.virt X84 hx hZ hown (hw _ (List.mem_of_getElem? (i := 30) rfl)) (hw _ (List.mem_of_getElem? (i := 31) rfl)) (notFace_of_selects (mvT (args := #[]) hZ (hw _ (List.mem_of_getElem? (i := 33) rfl)))) (hw _ (List.mem_of_getElem? (i := 33) rfl)) (hw _ (List.mem_of_getElem? (i := 32) rfl)) (hw _ (List.mem_of_getElem? (i := 34) rfl)) (hw _ (List.mem_of_getElem? (i := 3) rfl)) (by decide) (b := b2) (argsL := []) (rest := []) (rm2 l Z a0 hw b2 b4 b5 (0 : Int32) h56 n0 Z56 f87 f88 (by simp [d24, d25])) e84 f85 rfl (by rw [hml]; rfl) pd___Z rfl (hb hby at_142) 0 (Nat.le_refl _) (by decide) (by decide) (by decide) (by decide) ?_
    intro v89 T89 L89 X89 hQ89
    obtain ⟨hv89, N89', e89⟩ := hQ89
    subst hv89
    have N89 := Fr.app N84 N89'
    show Go pP eE below _ (T89.setTop (mkF m 145 #[.val (.int p0), .val (.ref a1), .val (.ref a38), .val (.int (2 : Int32)), .val (.ref b2), .val (.int (1 : Int32))] [(.int (0 : Int32))]))
    refine Go.st (S' := T89.setTop (mkF m 148 #[.val (.int p0), .val (.ref a1), .val (.ref a38), .val (.int (2 : Int32)), .val (.ref b2), .val (.int (1 : Int32))] [])) (fun t kt => XS.ifNo X89.here hx rfl (hb hby at_145) rfl (XT.i0_ne_f (by decide)) kt) ?_
    refine Go.st (S' := T89.setTop (mkF m 149 #[.val (.int p0), .val (.ref a1), .val (.ref a38), .val (.int (2 : Int32)), .val (.ref b2), .val (.int (1 : Int32))] [(.int (1 : Int32))])) (fun t kt => XS.iconst X89.here hx rfl (hb hby at_148) kt) ?_
    refine Go.st (S' := T89.setTop (mkF m 153 #[.val (.int p0), .val (.ref a1), .val (.ref a38), .val (.int (2 : Int32)), .val (.ref b2), .val (.int (1 : Int32))] [(.int (1 : Int32))])) (fun t kt => XS.goto X89.here hx rfl (pc0 := 149) (pc' := 153) rfl (hb hby at_149) (by decide) (by decide) kt) ?_
    exact ret_b X89 hx hlk hret (hb hby at_153) (by decide) (by decide) (⟨rfl, N89⟩)
  · rw [hi3]
    show Go pP eE below _ (T56.setTop (mkF m 115 #[.val (.int p0), .val (.ref a1), .val (.ref a38), .val (.int (3 : Int32)), .unset, .unset] []))
    refine Go.st (S' := T56.setTop (mkF m 116 #[.val (.int p0), .val (.ref a1), .val (.ref a38), .val (.int (3 : Int32)), .unset, .unset] [(.ref a1)])) (fun t kt => XS.aloadN X56.here hx rfl (hb hby at_115) rfl rfl kt) ?_
    refine Go.st (S' := T56.setTop (mkF m 117 #[.val (.int p0), .val (.ref a1), .val (.ref a38), .val (.int (3 : Int32)), .unset, .unset] [(.int (3 : Int32)), (.ref a1)])) (fun t kt => XS.iloadN X56.here hx rfl (hb hby at_116) rfl kt) ?_
    have f91 := ((((((((((V36.ext E38).other W48 (Nat.ne_of_lt (by rw [g38]; exact V36.lt))).other W49 (Nat.ne_of_lt (by rw [g38]; exact V36.lt))).other W50 (Nat.ne_of_lt (by rw [g38]; exact V36.lt))).other W51 (Nat.ne_of_lt (by rw [g38]; exact V36.lt))).other W52 (Nat.ne_of_lt (by rw [g38]; exact V36.lt))).other W53 (Nat.ne_of_lt (by rw [g38]; exact V36.lt))).other W54 (Nat.ne_of_lt (by rw [g38]; exact V36.lt))).other W55 (Nat.ne_of_lt (by rw [g38]; exact V36.lt))).other W56 (Nat.ne_of_lt (by rw [g38]; exact V36.lt)))
    obtain ⟨cl90, Ar90, q90, S90, M90, H90, G90⟩ := id f91
    refine Go.st (S' := T56.setTop (mkF m 118 #[.val (.int p0), .val (.ref a1), .val (.ref a38), .val (.int (3 : Int32)), .unset, .unset] [(.ref b3)])) (fun t kt => X56.aaload hx (j := (3 : Int32)) (v := (.ref b3)) (by rw [e56]; exact Ar90.1) (State.isArrayOf_alike hZ.alike Ar90.2.1) rfl Ar90.2.2 (inb_of S90 ⟨by decide, by decide⟩) (Has.at H90 (inb_of S90 ⟨by decide, by decide⟩) rfl) (g := (mkF m 117 #[.val (.int p0), .val (.ref a1), .val (.ref a38), .val (.int (3 : Int32)), .unset, .unset] [(.int (3 : Int32)), (.ref a1)])) rfl rfl (hb hby at_117) t kt) ?_
    refine Go.st (S' := T56.setTop (mkF m 120 #[.val (.int p0), .val (.ref a1), .val (.ref a38), .val (.int (3 : Int32)), .val (.ref b3), .unset] [])) (fun t kt => XS.astore X56.here hx rfl (hb hby at_118) rfl rfl rfl kt) ?_
    refine Go.st (S' := T56.setTop (mkF m 122 #[.val (.int p0), .val (.ref a1), .val (.ref a38), .val (.int (3 : Int32)), .val (.ref b3), .unset] [(.ref b3)])) (fun t kt => XS.aload X56.here hx rfl (hb hby at_120) rfl rfl kt) ?_
    have f92 := (Sta.wr W56 (Sta.wr W55 (Sta.wr W54 (Sta.wr W53 (Sta.wr W52 (Sta.wr W51 (Sta.wr W50 (Sta.wr W49 (Sta.wr W48 ((Sta.wr W36 (Sta.wr W32 (Sta.wr W28 (Sta.wr W24 (Sta.wr W20 (Sta.wr W16 (Sta.wr W12 (Sta.wr W8 (Sta.wr W4 f2))))))))).ext E38))))))))))
    have f93 := (Sta.wr W56 (Sta.wr W55 (Sta.wr W54 (Sta.wr W53 (Sta.wr W52 (Sta.wr W51 (Sta.wr W50 (Sta.wr W49 (Sta.wr W48 ((Sta.wr W36 (Sta.wr W32 (Sta.wr W28 (Sta.wr W24 (Sta.wr W20 (Sta.wr W16 (Sta.wr W12 (Sta.wr W8 f6)))))))).ext E38))))))))))
    have f94 := (Sta.wr W56 (Sta.wr W55 (Sta.wr W54 (Sta.wr W53 (Sta.wr W52 (Sta.wr W51 (Sta.wr W50 (Sta.wr W49 (Sta.wr W48 ((Sta.wr W36 (Sta.wr W32 (Sta.wr W28 (Sta.wr W24 (Sta.wr W20 (Sta.wr W16 (Sta.wr W12 f10))))))).ext E38))))))))))
    have f96 := (Exa.wr W56 (Exa.wr W55 (Exa.wr W54 (Exa.wr W53 (Exa.wr W52 (Exa.wr W51 (Exa.wr W50 (Exa.wr W49 (Exa.wr W48 (f42.ext E38))))))))))
    refine Go.virt X56 hx hZ hown (hw _ (List.mem_of_getElem? (i := 24) rfl)) (hw _ (List.mem_of_getElem? (i := 25) rfl)) (notFace_of_selects (mvT (args := #[]) hZ (hw _ (List.mem_of_getElem? (i := 27) rfl)))) (hw _ (List.mem_of_getElem? (i := 27) rfl)) (hw _ (List.mem_of_getElem? (i := 26) rfl)) (hw _ (List.mem_of_getElem? (i := 28) rfl)) (hw _ (List.mem_of_getElem? (i := 3) rfl)) (by decide) (b := b3) (argsL := []) (rest := []) (rm1 l Z a0 hw b3 b0 b1 b2 (0 : Int32) h56 n0 Z56 f92 f93 f94 (by simp [d30, d31, d32])) e56 f96 rfl (by rw [hml]; rfl) pd___Z rfl (hb hby at_122) 0 (Nat.le_refl _) (by decide) (by decide) (by decide) (by decide) ?_
    intro v95 T95 L95 X95 hQ95
    obtain ⟨hv95, N95', e95⟩ := hQ95
    subst hv95
    have N95 := Fr.app N56 N95'
    show Go pP eE below _ (T95.setTop (mkF m 125 #[.val (.int p0), .val (.ref a1), .val (.ref a38), .val (.int (3 : Int32)), .val (.ref b3), .unset] [(.int (0 : Int32))]))
    refine Go.st (S' := T95.setTop (mkF m 127 #[.val (.int p0), .val (.ref a1), .val (.ref a38), .val (.int (3 : Int32)), .val (.ref b3), .val (.int (0 : Int32))] [])) (fun t kt => XS.istore X95.here hx rfl (hb hby at_125) rfl rfl kt) ?_
    refine Go.st (S' := T95.setTop (mkF m 129 #[.val (.int p0), .val (.ref a1), .val (.ref a38), .val (.int (3 : Int32)), .val (.ref b3), .val (.int (0 : Int32))] [(.int (0 : Int32))])) (fun t kt => XS.iload X95.here hx rfl (hb hby at_127) rfl kt) ?_
    refine Go.st (S' := T95.setTop (mkF m 130 #[.val (.int p0), .val (.ref a1), .val (.ref a38), .val (.int (3 : Int32)), .val (.ref b3), .val (.int (0 : Int32))] [(.ref a38), (.int (0 : Int32))])) (fun t kt => XS.aloadN X95.here hx rfl (hb hby at_129) rfl rfl kt) ?_
    refine Go.st (S' := T95.setTop (mkF m 131 #[.val (.int p0), .val (.ref a1), .val (.ref a38), .val (.int (3 : Int32)), .val (.ref b3), .val (.int (0 : Int32))] [(.int (3 : Int32)), (.ref a38), (.int (0 : Int32))])) (fun t kt => XS.iloadN X95.here hx rfl (hb hby at_130) rfl kt) ?_
    obtain ⟨cl97, Ar97, q97, S97, M97, H97, G97⟩ := id V56
    refine Go.st (S' := T95.setTop (mkF m 132 #[.val (.int p0), .val (.ref a1), .val (.ref a38), .val (.int (3 : Int32)), .val (.ref b3), .val (.int (0 : Int32))] [(.int (0 : Int32)), (.int (0 : Int32))])) (fun t kt => X95.baloadBooleans hx (j := (3 : Int32)) (v := (.int (0 : Int32))) (by rw [e95]; exact Ar97.1) (State.isArrayOf_alike hZ.alike Ar97.2.1) Ar97.2.2 (inb_of S97 ⟨by decide, by decide⟩) (Has.at H97 (inb_of S97 ⟨by decide, by decide⟩) rfl) (g := (mkF m 131 #[.val (.int p0), .val (.ref a1), .val (.ref a38), .val (.int (3 : Int32)), .val (.ref b3), .val (.int (0 : Int32))] [(.int (3 : Int32)), (.ref a38), (.int (0 : Int32))])) rfl rfl (hb hby at_131) t kt) ?_
    refine Go.st (S' := T95.setTop (mkF m 135 #[.val (.int p0), .val (.ref a1), .val (.ref a38), .val (.int (3 : Int32)), .val (.ref b3), .val (.int (0 : Int32))] [])) (fun t kt => XS.icmpNo X95.here hx rfl (hb hby at_132) rfl (XT.ii_ne_f (by decide)) kt) ?_
    refine Go.st (S' := T95.setTop (mkF m 137 #[.val (.int p0), .val (.ref a1), .val (.ref a38), .val (.int (3 : Int32)), .val (.ref b3), .val (.int (0 : Int32))] [(.int (0 : Int32))])) (fun t kt => XS.iload X95.here hx rfl (hb hby at_135) rfl kt) ?_
    refine Go.st (S' := T95.setTop (mkF m 148 #[.val (.int p0), .val (.ref a1), .val (.ref a38), .val (.int (3 : Int32)), .val (.ref b3), .val (.int (0 : Int32))] [])) (fun t kt => XS.ifYes X95.here hx rfl (pc0 := 137) (pc' := 148) rfl (hb hby at_137) rfl (XT.i0_eq_t (by decide)) (by decide) (by decide) kt) ?_
    refine Go.st (S' := T95.setTop (mkF m 149 #[.val (.int p0), .val (.ref a1), .val (.ref a38), .val (.int (3 : Int32)), .val (.ref b3), .val (.int (0 : Int32))] [(.int (1 : Int32))])) (fun t kt => XS.iconst X95.here hx rfl (hb hby at_148) kt) ?_
    refine Go.st (S' := T95.setTop (mkF m 153 #[.val (.int p0), .val (.ref a1), .val (.ref a38), .val (.int (3 : Int32)), .val (.ref b3), .val (.int (0 : Int32))] [(.int (1 : Int32))])) (fun t kt => XS.goto X95.here hx rfl (pc0 := 149) (pc' := 153) rfl (hb hby at_149) (by decide) (by decide) kt) ?_
    exact ret_b X95 hx hlk hret (hb hby at_153) (by decide) (by decide) (⟨rfl, N95⟩)
  · rw [hi4]
    show Go pP eE below _ (T56.setTop (mkF m 115 #[.val (.int p0), .val (.ref a1), .val (.ref a38), .val (.int (4 : Int32)), .unset, .unset] []))
    refine Go.st (S' := T56.setTop (mkF m 116 #[.val (.int p0), .val (.ref a1), .val (.ref a38), .val (.int (4 : Int32)), .unset, .unset] [(.ref a1)])) (fun t kt => XS.aloadN X56.here hx rfl (hb hby at_115) rfl rfl kt) ?_
    refine Go.st (S' := T56.setTop (mkF m 117 #[.val (.int p0), .val (.ref a1), .val (.ref a38), .val (.int (4 : Int32)), .unset, .unset] [(.int (4 : Int32)), (.ref a1)])) (fun t kt => XS.iloadN X56.here hx rfl (hb hby at_116) rfl kt) ?_
    have f99 := ((((((((((V36.ext E38).other W48 (Nat.ne_of_lt (by rw [g38]; exact V36.lt))).other W49 (Nat.ne_of_lt (by rw [g38]; exact V36.lt))).other W50 (Nat.ne_of_lt (by rw [g38]; exact V36.lt))).other W51 (Nat.ne_of_lt (by rw [g38]; exact V36.lt))).other W52 (Nat.ne_of_lt (by rw [g38]; exact V36.lt))).other W53 (Nat.ne_of_lt (by rw [g38]; exact V36.lt))).other W54 (Nat.ne_of_lt (by rw [g38]; exact V36.lt))).other W55 (Nat.ne_of_lt (by rw [g38]; exact V36.lt))).other W56 (Nat.ne_of_lt (by rw [g38]; exact V36.lt)))
    obtain ⟨cl98, Ar98, q98, S98, M98, H98, G98⟩ := id f99
    refine Go.st (S' := T56.setTop (mkF m 118 #[.val (.int p0), .val (.ref a1), .val (.ref a38), .val (.int (4 : Int32)), .unset, .unset] [(.ref b4)])) (fun t kt => X56.aaload hx (j := (4 : Int32)) (v := (.ref b4)) (by rw [e56]; exact Ar98.1) (State.isArrayOf_alike hZ.alike Ar98.2.1) rfl Ar98.2.2 (inb_of S98 ⟨by decide, by decide⟩) (Has.at H98 (inb_of S98 ⟨by decide, by decide⟩) rfl) (g := (mkF m 117 #[.val (.int p0), .val (.ref a1), .val (.ref a38), .val (.int (4 : Int32)), .unset, .unset] [(.int (4 : Int32)), (.ref a1)])) rfl rfl (hb hby at_117) t kt) ?_
    refine Go.st (S' := T56.setTop (mkF m 120 #[.val (.int p0), .val (.ref a1), .val (.ref a38), .val (.int (4 : Int32)), .val (.ref b4), .unset] [])) (fun t kt => XS.astore X56.here hx rfl (hb hby at_118) rfl rfl rfl kt) ?_
    refine Go.st (S' := T56.setTop (mkF m 122 #[.val (.int p0), .val (.ref a1), .val (.ref a38), .val (.int (4 : Int32)), .val (.ref b4), .unset] [(.ref b4)])) (fun t kt => XS.aload X56.here hx rfl (hb hby at_120) rfl rfl kt) ?_
    have f100 := (Sta.wr W56 (Sta.wr W55 (Sta.wr W54 (Sta.wr W53 (Sta.wr W52 (Sta.wr W51 (Sta.wr W50 (Sta.wr W49 (Sta.wr W48 ((Sta.wr W36 (Sta.wr W32 (Sta.wr W28 (Sta.wr W24 (Sta.wr W20 (Sta.wr W16 (Sta.wr W12 (Sta.wr W8 (Sta.wr W4 f2))))))))).ext E38))))))))))
    have f101 := (Sta.wr W56 (Sta.wr W55 (Sta.wr W54 (Sta.wr W53 (Sta.wr W52 (Sta.wr W51 (Sta.wr W50 (Sta.wr W49 (Sta.wr W48 ((Sta.wr W36 (Sta.wr W32 (Sta.wr W28 (Sta.wr W24 (Sta.wr W20 (Sta.wr W16 (Sta.wr W12 (Sta.wr W8 f6)))))))).ext E38))))))))))
    have f102 := (Sta.wr W56 (Sta.wr W55 (Sta.wr W54 (Sta.wr W53 (Sta.wr W52 (Sta.wr W51 (Sta.wr W50 (Sta.wr W49 (Sta.wr W48 ((Sta.wr W36 (Sta.wr W32 (Sta.wr W28 (Sta.wr W24 (Sta.wr W20 (Sta.wr W16 (Sta.wr W12 f10))))))).ext E38))))))))))
    have f104 := (Exa.wr W56 (Exa.wr W55 (Exa.wr W54 (Exa.wr W53 (Exa.wr W52 (Exa.wr W51 (Exa.wr W50 (Exa.wr W49 (Exa.wr W48 (f43.ext E38))))))))))
    refine Go.virt X56 hx hZ hown (hw _ (List.mem_of_getElem? (i := 24) rfl)) (hw _ (List.mem_of_getElem? (i := 25) rfl)) (notFace_of_selects (mvT (args := #[]) hZ (hw _ (List.mem_of_getElem? (i := 27) rfl)))) (hw _ (List.mem_of_getElem? (i := 27) rfl)) (hw _ (List.mem_of_getElem? (i := 26) rfl)) (hw _ (List.mem_of_getElem? (i := 28) rfl)) (hw _ (List.mem_of_getElem? (i := 3) rfl)) (by decide) (b := b4) (argsL := []) (rest := []) (rm1 l Z a0 hw b4 b0 b1 b2 (0 : Int32) h56 n0 Z56 f100 f101 f102 (by simp [d40, d41, d42])) e56 f104 rfl (by rw [hml]; rfl) pd___Z rfl (hb hby at_122) 0 (Nat.le_refl _) (by decide) (by decide) (by decide) (by decide) ?_
    intro v103 T103 L103 X103 hQ103
    obtain ⟨hv103, N103', e103⟩ := hQ103
    subst hv103
    have N103 := Fr.app N56 N103'
    show Go pP eE below _ (T103.setTop (mkF m 125 #[.val (.int p0), .val (.ref a1), .val (.ref a38), .val (.int (4 : Int32)), .val (.ref b4), .unset] [(.int (0 : Int32))]))
    refine Go.st (S' := T103.setTop (mkF m 127 #[.val (.int p0), .val (.ref a1), .val (.ref a38), .val (.int (4 : Int32)), .val (.ref b4), .val (.int (0 : Int32))] [])) (fun t kt => XS.istore X103.here hx rfl (hb hby at_125) rfl rfl kt) ?_
    refine Go.st (S' := T103.setTop (mkF m 129 #[.val (.int p0), .val (.ref a1), .val (.ref a38), .val (.int (4 : Int32)), .val (.ref b4), .val (.int (0 : Int32))] [(.int (0 : Int32))])) (fun t kt => XS.iload X103.here hx rfl (hb hby at_127) rfl kt) ?_
    refine Go.st (S' := T103.setTop (mkF m 130 #[.val (.int p0), .val (.ref a1), .val (.ref a38), .val (.int (4 : Int32)), .val (.ref b4), .val (.int (0 : Int32))] [(.ref a38), (.int (0 : Int32))])) (fun t kt => XS.aloadN X103.here hx rfl (hb hby at_129) rfl rfl kt) ?_
    refine Go.st (S' := T103.setTop (mkF m 131 #[.val (.int p0), .val (.ref a1), .val (.ref a38), .val (.int (4 : Int32)), .val (.ref b4), .val (.int (0 : Int32))] [(.int (4 : Int32)), (.ref a38), (.int (0 : Int32))])) (fun t kt => XS.iloadN X103.here hx rfl (hb hby at_130) rfl kt) ?_
    obtain ⟨cl105, Ar105, q105, S105, M105, H105, G105⟩ := id V56
    refine Go.st (S' := T103.setTop (mkF m 132 #[.val (.int p0), .val (.ref a1), .val (.ref a38), .val (.int (4 : Int32)), .val (.ref b4), .val (.int (0 : Int32))] [(.int (0 : Int32)), (.int (0 : Int32))])) (fun t kt => X103.baloadBooleans hx (j := (4 : Int32)) (v := (.int (0 : Int32))) (by rw [e103]; exact Ar105.1) (State.isArrayOf_alike hZ.alike Ar105.2.1) Ar105.2.2 (inb_of S105 ⟨by decide, by decide⟩) (Has.at H105 (inb_of S105 ⟨by decide, by decide⟩) rfl) (g := (mkF m 131 #[.val (.int p0), .val (.ref a1), .val (.ref a38), .val (.int (4 : Int32)), .val (.ref b4), .val (.int (0 : Int32))] [(.int (4 : Int32)), (.ref a38), (.int (0 : Int32))])) rfl rfl (hb hby at_131) t kt) ?_
    refine Go.st (S' := T103.setTop (mkF m 135 #[.val (.int p0), .val (.ref a1), .val (.ref a38), .val (.int (4 : Int32)), .val (.ref b4), .val (.int (0 : Int32))] [])) (fun t kt => XS.icmpNo X103.here hx rfl (hb hby at_132) rfl (XT.ii_ne_f (by decide)) kt) ?_
    refine Go.st (S' := T103.setTop (mkF m 137 #[.val (.int p0), .val (.ref a1), .val (.ref a38), .val (.int (4 : Int32)), .val (.ref b4), .val (.int (0 : Int32))] [(.int (0 : Int32))])) (fun t kt => XS.iload X103.here hx rfl (hb hby at_135) rfl kt) ?_
    refine Go.st (S' := T103.setTop (mkF m 148 #[.val (.int p0), .val (.ref a1), .val (.ref a38), .val (.int (4 : Int32)), .val (.ref b4), .val (.int (0 : Int32))] [])) (fun t kt => XS.ifYes X103.here hx rfl (pc0 := 137) (pc' := 148) rfl (hb hby at_137) rfl (XT.i0_eq_t (by decide)) (by decide) (by decide) kt) ?_
    refine Go.st (S' := T103.setTop (mkF m 149 #[.val (.int p0), .val (.ref a1), .val (.ref a38), .val (.int (4 : Int32)), .val (.ref b4), .val (.int (0 : Int32))] [(.int (1 : Int32))])) (fun t kt => XS.iconst X103.here hx rfl (hb hby at_148) kt) ?_
    refine Go.st (S' := T103.setTop (mkF m 153 #[.val (.int p0), .val (.ref a1), .val (.ref a38), .val (.int (4 : Int32)), .val (.ref b4), .val (.int (0 : Int32))] [(.int (1 : Int32))])) (fun t kt => XS.goto X103.here hx rfl (pc0 := 149) (pc' := 153) rfl (hb hby at_149) (by decide) (by decide) kt) ?_
    exact ret_b X103 hx hlk hret (hb hby at_153) (by decide) (by decide) (⟨rfl, N103⟩)
  · rw [hi5]
    show Go pP eE below _ (T56.setTop (mkF m 115 #[.val (.int p0), .val (.ref a1), .val (.ref a38), .val (.int (5 : Int32)), .unset, .unset] []))
    refine Go.st (S' := T56.setTop (mkF m 116 #[.val (.int p0), .val (.ref a1), .val (.ref a38), .val (.int (5 : Int32)), .unset, .unset] [(.ref a1)])) (fun t kt => XS.aloadN X56.here hx rfl (hb hby at_115) rfl rfl kt) ?_
    refine Go.st (S' := T56.setTop (mkF m 117 #[.val (.int p0), .val (.ref a1), .val (.ref a38), .val (.int (5 : Int32)), .unset, .unset] [(.int (5 : Int32)), (.ref a1)])) (fun t kt => XS.iloadN X56.here hx rfl (hb hby at_116) rfl kt) ?_
    have f107 := ((((((((((V36.ext E38).other W48 (Nat.ne_of_lt (by rw [g38]; exact V36.lt))).other W49 (Nat.ne_of_lt (by rw [g38]; exact V36.lt))).other W50 (Nat.ne_of_lt (by rw [g38]; exact V36.lt))).other W51 (Nat.ne_of_lt (by rw [g38]; exact V36.lt))).other W52 (Nat.ne_of_lt (by rw [g38]; exact V36.lt))).other W53 (Nat.ne_of_lt (by rw [g38]; exact V36.lt))).other W54 (Nat.ne_of_lt (by rw [g38]; exact V36.lt))).other W55 (Nat.ne_of_lt (by rw [g38]; exact V36.lt))).other W56 (Nat.ne_of_lt (by rw [g38]; exact V36.lt)))
    obtain ⟨cl106, Ar106, q106, S106, M106, H106, G106⟩ := id f107
    refine Go.st (S' := T56.setTop (mkF m 118 #[.val (.int p0), .val (.ref a1), .val (.ref a38), .val (.int (5 : Int32)), .unset, .unset] [(.ref b5)])) (fun t kt => X56.aaload hx (j := (5 : Int32)) (v := (.ref b5)) (by rw [e56]; exact Ar106.1) (State.isArrayOf_alike hZ.alike Ar106.2.1) rfl Ar106.2.2 (inb_of S106 ⟨by decide, by decide⟩) (Has.at H106 (inb_of S106 ⟨by decide, by decide⟩) rfl) (g := (mkF m 117 #[.val (.int p0), .val (.ref a1), .val (.ref a38), .val (.int (5 : Int32)), .unset, .unset] [(.int (5 : Int32)), (.ref a1)])) rfl rfl (hb hby at_117) t kt) ?_
    refine Go.st (S' := T56.setTop (mkF m 120 #[.val (.int p0), .val (.ref a1), .val (.ref a38), .val (.int (5 : Int32)), .val (.ref b5), .unset] [])) (fun t kt => XS.astore X56.here hx rfl (hb hby at_118) rfl rfl rfl kt) ?_
    refine Go.st (S' := T56.setTop (mkF m 122 #[.val (.int p0), .val (.ref a1), .val (.ref a38), .val (.int (5 : Int32)), .val (.ref b5), .unset] [(.ref b5)])) (fun t kt => XS.aload X56.here hx rfl (hb hby at_120) rfl rfl kt) ?_
    have f108 := (Sta.wr W56 (Sta.wr W55 (Sta.wr W54 (Sta.wr W53 (Sta.wr W52 (Sta.wr W51 (Sta.wr W50 (Sta.wr W49 (Sta.wr W48 ((Sta.wr W36 (Sta.wr W32 (Sta.wr W28 (Sta.wr W24 (Sta.wr W20 (Sta.wr W16 (Sta.wr W12 (Sta.wr W8 (Sta.wr W4 f2))))))))).ext E38))))))))))
    have f109 := (Sta.wr W56 (Sta.wr W55 (Sta.wr W54 (Sta.wr W53 (Sta.wr W52 (Sta.wr W51 (Sta.wr W50 (Sta.wr W49 (Sta.wr W48 ((Sta.wr W36 (Sta.wr W32 (Sta.wr W28 (Sta.wr W24 (Sta.wr W20 (Sta.wr W16 (Sta.wr W12 (Sta.wr W8 f6)))))))).ext E38))))))))))
    have f110 := (Sta.wr W56 (Sta.wr W55 (Sta.wr W54 (Sta.wr W53 (Sta.wr W52 (Sta.wr W51 (Sta.wr W50 (Sta.wr W49 (Sta.wr W48 ((Sta.wr W36 (Sta.wr W32 (Sta.wr W28 (Sta.wr W24 (Sta.wr W20 (Sta.wr W16 (Sta.wr W12 f10))))))).ext E38))))))))))
    have f112 := (Exa.wr W56 (Exa.wr W55 (Exa.wr W54 (Exa.wr W53 (Exa.wr W52 (Exa.wr W51 (Exa.wr W50 (Exa.wr W49 (Exa.wr W48 (f44.ext E38))))))))))
    refine Go.virt X56 hx hZ hown (hw _ (List.mem_of_getElem? (i := 24) rfl)) (hw _ (List.mem_of_getElem? (i := 25) rfl)) (notFace_of_selects (mvT (args := #[]) hZ (hw _ (List.mem_of_getElem? (i := 27) rfl)))) (hw _ (List.mem_of_getElem? (i := 27) rfl)) (hw _ (List.mem_of_getElem? (i := 26) rfl)) (hw _ (List.mem_of_getElem? (i := 28) rfl)) (hw _ (List.mem_of_getElem? (i := 3) rfl)) (by decide) (b := b5) (argsL := []) (rest := []) (rm1 l Z a0 hw b5 b0 b1 b2 (0 : Int32) h56 n0 Z56 f108 f109 f110 (by simp [d50, d51, d52])) e56 f112 rfl (by rw [hml]; rfl) pd___Z rfl (hb hby at_122) 0 (Nat.le_refl _) (by decide) (by decide) (by decide) (by decide) ?_
    intro v111 T111 L111 X111 hQ111
    obtain ⟨hv111, N111', e111⟩ := hQ111
    subst hv111
    have N111 := Fr.app N56 N111'
    show Go pP eE below _ (T111.setTop (mkF m 125 #[.val (.int p0), .val (.ref a1), .val (.ref a38), .val (.int (5 : Int32)), .val (.ref b5), .unset] [(.int (0 : Int32))]))
    refine Go.st (S' := T111.setTop (mkF m 127 #[.val (.int p0), .val (.ref a1), .val (.ref a38), .val (.int (5 : Int32)), .val (.ref b5), .val (.int (0 : Int32))] [])) (fun t kt => XS.istore X111.here hx rfl (hb hby at_125) rfl rfl kt) ?_
    refine Go.st (S' := T111.setTop (mkF m 129 #[.val (.int p0), .val (.ref a1), .val (.ref a38), .val (.int (5 : Int32)), .val (.ref b5), .val (.int (0 : Int32))] [(.int (0 : Int32))])) (fun t kt => XS.iload X111.here hx rfl (hb hby at_127) rfl kt) ?_
    refine Go.st (S' := T111.setTop (mkF m 130 #[.val (.int p0), .val (.ref a1), .val (.ref a38), .val (.int (5 : Int32)), .val (.ref b5), .val (.int (0 : Int32))] [(.ref a38), (.int (0 : Int32))])) (fun t kt => XS.aloadN X111.here hx rfl (hb hby at_129) rfl rfl kt) ?_
    refine Go.st (S' := T111.setTop (mkF m 131 #[.val (.int p0), .val (.ref a1), .val (.ref a38), .val (.int (5 : Int32)), .val (.ref b5), .val (.int (0 : Int32))] [(.int (5 : Int32)), (.ref a38), (.int (0 : Int32))])) (fun t kt => XS.iloadN X111.here hx rfl (hb hby at_130) rfl kt) ?_
    obtain ⟨cl113, Ar113, q113, S113, M113, H113, G113⟩ := id V56
    refine Go.st (S' := T111.setTop (mkF m 132 #[.val (.int p0), .val (.ref a1), .val (.ref a38), .val (.int (5 : Int32)), .val (.ref b5), .val (.int (0 : Int32))] [(.int (0 : Int32)), (.int (0 : Int32))])) (fun t kt => X111.baloadBooleans hx (j := (5 : Int32)) (v := (.int (0 : Int32))) (by rw [e111]; exact Ar113.1) (State.isArrayOf_alike hZ.alike Ar113.2.1) Ar113.2.2 (inb_of S113 ⟨by decide, by decide⟩) (Has.at H113 (inb_of S113 ⟨by decide, by decide⟩) rfl) (g := (mkF m 131 #[.val (.int p0), .val (.ref a1), .val (.ref a38), .val (.int (5 : Int32)), .val (.ref b5), .val (.int (0 : Int32))] [(.int (5 : Int32)), (.ref a38), (.int (0 : Int32))])) rfl rfl (hb hby at_131) t kt) ?_
    refine Go.st (S' := T111.setTop (mkF m 135 #[.val (.int p0), .val (.ref a1), .val (.ref a38), .val (.int (5 : Int32)), .val (.ref b5), .val (.int (0 : Int32))] [])) (fun t kt => XS.icmpNo X111.here hx rfl (hb hby at_132) rfl (XT.ii_ne_f (by decide)) kt) ?_
    refine Go.st (S' := T111.setTop (mkF m 137 #[.val (.int p0), .val (.ref a1), .val (.ref a38), .val (.int (5 : Int32)), .val (.ref b5), .val (.int (0 : Int32))] [(.int (0 : Int32))])) (fun t kt => XS.iload X111.here hx rfl (hb hby at_135) rfl kt) ?_
    refine Go.st (S' := T111.setTop (mkF m 148 #[.val (.int p0), .val (.ref a1), .val (.ref a38), .val (.int (5 : Int32)), .val (.ref b5), .val (.int (0 : Int32))] [])) (fun t kt => XS.ifYes X111.here hx rfl (pc0 := 137) (pc' := 148) rfl (hb hby at_137) rfl (XT.i0_eq_t (by decide)) (by decide) (by decide) kt) ?_
    refine Go.st (S' := T111.setTop (mkF m 149 #[.val (.int p0), .val (.ref a1), .val (.ref a38), .val (.int (5 : Int32)), .val (.ref b5), .val (.int (0 : Int32))] [(.int (1 : Int32))])) (fun t kt => XS.iconst X111.here hx rfl (hb hby at_148) kt) ?_
    refine Go.st (S' := T111.setTop (mkF m 153 #[.val (.int p0), .val (.ref a1), .val (.ref a38), .val (.int (5 : Int32)), .val (.ref b5), .val (.int (0 : Int32))] [(.int (1 : Int32))])) (fun t kt => XS.goto X111.here hx rfl (pc0 := 149) (pc' := 153) rfl (hb hby at_149) (by decide) (by decide) kt) ?_
    exact ret_b X111 hx hlk hret (hb hby at_153) (by decide) (by decide) (⟨rfl, N111⟩)
  · rw [hi6]
    show Go pP eE below _ (T56.setTop (mkF m 115 #[.val (.int p0), .val (.ref a1), .val (.ref a38), .val (.int (6 : Int32)), .unset, .unset] []))
    refine Go.st (S' := T56.setTop (mkF m 116 #[.val (.int p0), .val (.ref a1), .val (.ref a38), .val (.int (6 : Int32)), .unset, .unset] [(.ref a1)])) (fun t kt => XS.aloadN X56.here hx rfl (hb hby at_115) rfl rfl kt) ?_
    refine Go.st (S' := T56.setTop (mkF m 117 #[.val (.int p0), .val (.ref a1), .val (.ref a38), .val (.int (6 : Int32)), .unset, .unset] [(.int (6 : Int32)), (.ref a1)])) (fun t kt => XS.iloadN X56.here hx rfl (hb hby at_116) rfl kt) ?_
    have f115 := ((((((((((V36.ext E38).other W48 (Nat.ne_of_lt (by rw [g38]; exact V36.lt))).other W49 (Nat.ne_of_lt (by rw [g38]; exact V36.lt))).other W50 (Nat.ne_of_lt (by rw [g38]; exact V36.lt))).other W51 (Nat.ne_of_lt (by rw [g38]; exact V36.lt))).other W52 (Nat.ne_of_lt (by rw [g38]; exact V36.lt))).other W53 (Nat.ne_of_lt (by rw [g38]; exact V36.lt))).other W54 (Nat.ne_of_lt (by rw [g38]; exact V36.lt))).other W55 (Nat.ne_of_lt (by rw [g38]; exact V36.lt))).other W56 (Nat.ne_of_lt (by rw [g38]; exact V36.lt)))
    obtain ⟨cl114, Ar114, q114, S114, M114, H114, G114⟩ := id f115
    refine Go.st (S' := T56.setTop (mkF m 118 #[.val (.int p0), .val (.ref a1), .val (.ref a38), .val (.int (6 : Int32)), .unset, .unset] [(.ref b6)])) (fun t kt => X56.aaload hx (j := (6 : Int32)) (v := (.ref b6)) (by rw [e56]; exact Ar114.1) (State.isArrayOf_alike hZ.alike Ar114.2.1) rfl Ar114.2.2 (inb_of S114 ⟨by decide, by decide⟩) (Has.at H114 (inb_of S114 ⟨by decide, by decide⟩) rfl) (g := (mkF m 117 #[.val (.int p0), .val (.ref a1), .val (.ref a38), .val (.int (6 : Int32)), .unset, .unset] [(.int (6 : Int32)), (.ref a1)])) rfl rfl (hb hby at_117) t kt) ?_
    refine Go.st (S' := T56.setTop (mkF m 120 #[.val (.int p0), .val (.ref a1), .val (.ref a38), .val (.int (6 : Int32)), .val (.ref b6), .unset] [])) (fun t kt => XS.astore X56.here hx rfl (hb hby at_118) rfl rfl rfl kt) ?_
    refine Go.st (S' := T56.setTop (mkF m 122 #[.val (.int p0), .val (.ref a1), .val (.ref a38), .val (.int (6 : Int32)), .val (.ref b6), .unset] [(.ref b6)])) (fun t kt => XS.aload X56.here hx rfl (hb hby at_120) rfl rfl kt) ?_
    have f116 := (Sta.wr W56 (Sta.wr W55 (Sta.wr W54 (Sta.wr W53 (Sta.wr W52 (Sta.wr W51 (Sta.wr W50 (Sta.wr W49 (Sta.wr W48 ((Sta.wr W36 (Sta.wr W32 (Sta.wr W28 (Sta.wr W24 (Sta.wr W20 (Sta.wr W16 (Sta.wr W12 (Sta.wr W8 (Sta.wr W4 f2))))))))).ext E38))))))))))
    have f117 := (Sta.wr W56 (Sta.wr W55 (Sta.wr W54 (Sta.wr W53 (Sta.wr W52 (Sta.wr W51 (Sta.wr W50 (Sta.wr W49 (Sta.wr W48 ((Sta.wr W36 (Sta.wr W32 (Sta.wr W28 (Sta.wr W24 (Sta.wr W20 (Sta.wr W16 (Sta.wr W12 (Sta.wr W8 f6)))))))).ext E38))))))))))
    have f118 := (Sta.wr W56 (Sta.wr W55 (Sta.wr W54 (Sta.wr W53 (Sta.wr W52 (Sta.wr W51 (Sta.wr W50 (Sta.wr W49 (Sta.wr W48 ((Sta.wr W36 (Sta.wr W32 (Sta.wr W28 (Sta.wr W24 (Sta.wr W20 (Sta.wr W16 (Sta.wr W12 f10))))))).ext E38))))))))))
    have f120 := (Exa.wr W56 (Exa.wr W55 (Exa.wr W54 (Exa.wr W53 (Exa.wr W52 (Exa.wr W51 (Exa.wr W50 (Exa.wr W49 (Exa.wr W48 (f45.ext E38))))))))))
    refine Go.virt X56 hx hZ hown (hw _ (List.mem_of_getElem? (i := 24) rfl)) (hw _ (List.mem_of_getElem? (i := 25) rfl)) (notFace_of_selects (mvT (args := #[]) hZ (hw _ (List.mem_of_getElem? (i := 27) rfl)))) (hw _ (List.mem_of_getElem? (i := 27) rfl)) (hw _ (List.mem_of_getElem? (i := 26) rfl)) (hw _ (List.mem_of_getElem? (i := 28) rfl)) (hw _ (List.mem_of_getElem? (i := 3) rfl)) (by decide) (b := b6) (argsL := []) (rest := []) (rm1 l Z a0 hw b6 b0 b1 b2 (0 : Int32) h56 n0 Z56 f116 f117 f118 (by simp [d60, d61, d62])) e56 f120 rfl (by rw [hml]; rfl) pd___Z rfl (hb hby at_122) 0 (Nat.le_refl _) (by decide) (by decide) (by decide) (by decide) ?_
    intro v119 T119 L119 X119 hQ119
    obtain ⟨hv119, N119', e119⟩ := hQ119
    subst hv119
    have N119 := Fr.app N56 N119'
    show Go pP eE below _ (T119.setTop (mkF m 125 #[.val (.int p0), .val (.ref a1), .val (.ref a38), .val (.int (6 : Int32)), .val (.ref b6), .unset] [(.int (0 : Int32))]))
    refine Go.st (S' := T119.setTop (mkF m 127 #[.val (.int p0), .val (.ref a1), .val (.ref a38), .val (.int (6 : Int32)), .val (.ref b6), .val (.int (0 : Int32))] [])) (fun t kt => XS.istore X119.here hx rfl (hb hby at_125) rfl rfl kt) ?_
    refine Go.st (S' := T119.setTop (mkF m 129 #[.val (.int p0), .val (.ref a1), .val (.ref a38), .val (.int (6 : Int32)), .val (.ref b6), .val (.int (0 : Int32))] [(.int (0 : Int32))])) (fun t kt => XS.iload X119.here hx rfl (hb hby at_127) rfl kt) ?_
    refine Go.st (S' := T119.setTop (mkF m 130 #[.val (.int p0), .val (.ref a1), .val (.ref a38), .val (.int (6 : Int32)), .val (.ref b6), .val (.int (0 : Int32))] [(.ref a38), (.int (0 : Int32))])) (fun t kt => XS.aloadN X119.here hx rfl (hb hby at_129) rfl rfl kt) ?_
    refine Go.st (S' := T119.setTop (mkF m 131 #[.val (.int p0), .val (.ref a1), .val (.ref a38), .val (.int (6 : Int32)), .val (.ref b6), .val (.int (0 : Int32))] [(.int (6 : Int32)), (.ref a38), (.int (0 : Int32))])) (fun t kt => XS.iloadN X119.here hx rfl (hb hby at_130) rfl kt) ?_
    obtain ⟨cl121, Ar121, q121, S121, M121, H121, G121⟩ := id V56
    refine Go.st (S' := T119.setTop (mkF m 132 #[.val (.int p0), .val (.ref a1), .val (.ref a38), .val (.int (6 : Int32)), .val (.ref b6), .val (.int (0 : Int32))] [(.int (0 : Int32)), (.int (0 : Int32))])) (fun t kt => X119.baloadBooleans hx (j := (6 : Int32)) (v := (.int (0 : Int32))) (by rw [e119]; exact Ar121.1) (State.isArrayOf_alike hZ.alike Ar121.2.1) Ar121.2.2 (inb_of S121 ⟨by decide, by decide⟩) (Has.at H121 (inb_of S121 ⟨by decide, by decide⟩) rfl) (g := (mkF m 131 #[.val (.int p0), .val (.ref a1), .val (.ref a38), .val (.int (6 : Int32)), .val (.ref b6), .val (.int (0 : Int32))] [(.int (6 : Int32)), (.ref a38), (.int (0 : Int32))])) rfl rfl (hb hby at_131) t kt) ?_
    refine Go.st (S' := T119.setTop (mkF m 135 #[.val (.int p0), .val (.ref a1), .val (.ref a38), .val (.int (6 : Int32)), .val (.ref b6), .val (.int (0 : Int32))] [])) (fun t kt => XS.icmpNo X119.here hx rfl (hb hby at_132) rfl (XT.ii_ne_f (by decide)) kt) ?_
    refine Go.st (S' := T119.setTop (mkF m 137 #[.val (.int p0), .val (.ref a1), .val (.ref a38), .val (.int (6 : Int32)), .val (.ref b6), .val (.int (0 : Int32))] [(.int (0 : Int32))])) (fun t kt => XS.iload X119.here hx rfl (hb hby at_135) rfl kt) ?_
    refine Go.st (S' := T119.setTop (mkF m 148 #[.val (.int p0), .val (.ref a1), .val (.ref a38), .val (.int (6 : Int32)), .val (.ref b6), .val (.int (0 : Int32))] [])) (fun t kt => XS.ifYes X119.here hx rfl (pc0 := 137) (pc' := 148) rfl (hb hby at_137) rfl (XT.i0_eq_t (by decide)) (by decide) (by decide) kt) ?_
    refine Go.st (S' := T119.setTop (mkF m 149 #[.val (.int p0), .val (.ref a1), .val (.ref a38), .val (.int (6 : Int32)), .val (.ref b6), .val (.int (0 : Int32))] [(.int (1 : Int32))])) (fun t kt => XS.iconst X119.here hx rfl (hb hby at_148) kt) ?_
    refine Go.st (S' := T119.setTop (mkF m 153 #[.val (.int p0), .val (.ref a1), .val (.ref a38), .val (.int (6 : Int32)), .val (.ref b6), .val (.int (0 : Int32))] [(.int (1 : Int32))])) (fun t kt => XS.goto X119.here hx rfl (pc0 := 149) (pc' := 153) rfl (hb hby at_149) (by decide) (by decide) kt) ?_
    exact ret_b X119 hx hlk hret (hb hby at_153) (by decide) (by decide) (⟨rfl, N119⟩)
  · rw [hi7]
    show Go pP eE below _ (T56.setTop (mkF m 115 #[.val (.int p0), .val (.ref a1), .val (.ref a38), .val (.int (7 : Int32)), .unset, .unset] []))
    refine Go.st (S' := T56.setTop (mkF m 116 #[.val (.int p0), .val (.ref a1), .val (.ref a38), .val (.int (7 : Int32)), .unset, .unset] [(.ref a1)])) (fun t kt => XS.aloadN X56.here hx rfl (hb hby at_115) rfl rfl kt) ?_
    refine Go.st (S' := T56.setTop (mkF m 117 #[.val (.int p0), .val (.ref a1), .val (.ref a38), .val (.int (7 : Int32)), .unset, .unset] [(.int (7 : Int32)), (.ref a1)])) (fun t kt => XS.iloadN X56.here hx rfl (hb hby at_116) rfl kt) ?_
    have f123 := ((((((((((V36.ext E38).other W48 (Nat.ne_of_lt (by rw [g38]; exact V36.lt))).other W49 (Nat.ne_of_lt (by rw [g38]; exact V36.lt))).other W50 (Nat.ne_of_lt (by rw [g38]; exact V36.lt))).other W51 (Nat.ne_of_lt (by rw [g38]; exact V36.lt))).other W52 (Nat.ne_of_lt (by rw [g38]; exact V36.lt))).other W53 (Nat.ne_of_lt (by rw [g38]; exact V36.lt))).other W54 (Nat.ne_of_lt (by rw [g38]; exact V36.lt))).other W55 (Nat.ne_of_lt (by rw [g38]; exact V36.lt))).other W56 (Nat.ne_of_lt (by rw [g38]; exact V36.lt)))
    obtain ⟨cl122, Ar122, q122, S122, M122, H122, G122⟩ := id f123
    refine Go.st (S' := T56.setTop (mkF m 118 #[.val (.int p0), .val (.ref a1), .val (.ref a38), .val (.int (7 : Int32)), .unset, .unset] [(.ref b7)])) (fun t kt => X56.aaload hx (j := (7 : Int32)) (v := (.ref b7)) (by rw [e56]; exact Ar122.1) (State.isArrayOf_alike hZ.alike Ar122.2.1) rfl Ar122.2.2 (inb_of S122 ⟨by decide, by decide⟩) (Has.at H122 (inb_of S122 ⟨by decide, by decide⟩) rfl) (g := (mkF m 117 #[.val (.int p0), .val (.ref a1), .val (.ref a38), .val (.int (7 : Int32)), .unset, .unset] [(.int (7 : Int32)), (.ref a1)])) rfl rfl (hb hby at_117) t kt) ?_
    refine Go.st (S' := T56.setTop (mkF m 120 #[.val (.int p0), .val (.ref a1), .val (.ref a38), .val (.int (7 : Int32)), .val (.ref b7), .unset] [])) (fun t kt => XS.astore X56.here hx rfl (hb hby at_118) rfl rfl rfl kt) ?_
    refine Go.st (S' := T56.setTop (mkF m 122 #[.val (.int p0), .val (.ref a1), .val (.ref a38), .val (.int (7 : Int32)), .val (.ref b7), .unset] [(.ref b7)])) (fun t kt => XS.aload X56.here hx rfl (hb hby at_120) rfl rfl kt) ?_
    have f124 := (Sta.wr W56 (Sta.wr W55 (Sta.wr W54 (Sta.wr W53 (Sta.wr W52 (Sta.wr W51 (Sta.wr W50 (Sta.wr W49 (Sta.wr W48 ((Sta.wr W36 (Sta.wr W32 (Sta.wr W28 (Sta.wr W24 (Sta.wr W20 (Sta.wr W16 (Sta.wr W12 (Sta.wr W8 (Sta.wr W4 f2))))))))).ext E38))))))))))
    have f125 := (Sta.wr W56 (Sta.wr W55 (Sta.wr W54 (Sta.wr W53 (Sta.wr W52 (Sta.wr W51 (Sta.wr W50 (Sta.wr W49 (Sta.wr W48 ((Sta.wr W36 (Sta.wr W32 (Sta.wr W28 (Sta.wr W24 (Sta.wr W20 (Sta.wr W16 (Sta.wr W12 (Sta.wr W8 f6)))))))).ext E38))))))))))
    have f126 := (Sta.wr W56 (Sta.wr W55 (Sta.wr W54 (Sta.wr W53 (Sta.wr W52 (Sta.wr W51 (Sta.wr W50 (Sta.wr W49 (Sta.wr W48 ((Sta.wr W36 (Sta.wr W32 (Sta.wr W28 (Sta.wr W24 (Sta.wr W20 (Sta.wr W16 (Sta.wr W12 f10))))))).ext E38))))))))))
    have f128 := (Exa.wr W56 (Exa.wr W55 (Exa.wr W54 (Exa.wr W53 (Exa.wr W52 (Exa.wr W51 (Exa.wr W50 (Exa.wr W49 (Exa.wr W48 (f46.ext E38))))))))))
    refine Go.virt X56 hx hZ hown (hw _ (List.mem_of_getElem? (i := 24) rfl)) (hw _ (List.mem_of_getElem? (i := 25) rfl)) (notFace_of_selects (mvT (args := #[]) hZ (hw _ (List.mem_of_getElem? (i := 27) rfl)))) (hw _ (List.mem_of_getElem? (i := 27) rfl)) (hw _ (List.mem_of_getElem? (i := 26) rfl)) (hw _ (List.mem_of_getElem? (i := 28) rfl)) (hw _ (List.mem_of_getElem? (i := 3) rfl)) (by decide) (b := b7) (argsL := []) (rest := []) (rm1 l Z a0 hw b7 b0 b1 b2 (0 : Int32) h56 n0 Z56 f124 f125 f126 (by simp [d70, d71, d72])) e56 f128 rfl (by rw [hml]; rfl) pd___Z rfl (hb hby at_122) 0 (Nat.le_refl _) (by decide) (by decide) (by decide) (by decide) ?_
    intro v127 T127 L127 X127 hQ127
    obtain ⟨hv127, N127', e127⟩ := hQ127
    subst hv127
    have N127 := Fr.app N56 N127'
    show Go pP eE below _ (T127.setTop (mkF m 125 #[.val (.int p0), .val (.ref a1), .val (.ref a38), .val (.int (7 : Int32)), .val (.ref b7), .unset] [(.int (0 : Int32))]))
    refine Go.st (S' := T127.setTop (mkF m 127 #[.val (.int p0), .val (.ref a1), .val (.ref a38), .val (.int (7 : Int32)), .val (.ref b7), .val (.int (0 : Int32))] [])) (fun t kt => XS.istore X127.here hx rfl (hb hby at_125) rfl rfl kt) ?_
    refine Go.st (S' := T127.setTop (mkF m 129 #[.val (.int p0), .val (.ref a1), .val (.ref a38), .val (.int (7 : Int32)), .val (.ref b7), .val (.int (0 : Int32))] [(.int (0 : Int32))])) (fun t kt => XS.iload X127.here hx rfl (hb hby at_127) rfl kt) ?_
    refine Go.st (S' := T127.setTop (mkF m 130 #[.val (.int p0), .val (.ref a1), .val (.ref a38), .val (.int (7 : Int32)), .val (.ref b7), .val (.int (0 : Int32))] [(.ref a38), (.int (0 : Int32))])) (fun t kt => XS.aloadN X127.here hx rfl (hb hby at_129) rfl rfl kt) ?_
    refine Go.st (S' := T127.setTop (mkF m 131 #[.val (.int p0), .val (.ref a1), .val (.ref a38), .val (.int (7 : Int32)), .val (.ref b7), .val (.int (0 : Int32))] [(.int (7 : Int32)), (.ref a38), (.int (0 : Int32))])) (fun t kt => XS.iloadN X127.here hx rfl (hb hby at_130) rfl kt) ?_
    obtain ⟨cl129, Ar129, q129, S129, M129, H129, G129⟩ := id V56
    refine Go.st (S' := T127.setTop (mkF m 132 #[.val (.int p0), .val (.ref a1), .val (.ref a38), .val (.int (7 : Int32)), .val (.ref b7), .val (.int (0 : Int32))] [(.int (0 : Int32)), (.int (0 : Int32))])) (fun t kt => X127.baloadBooleans hx (j := (7 : Int32)) (v := (.int (0 : Int32))) (by rw [e127]; exact Ar129.1) (State.isArrayOf_alike hZ.alike Ar129.2.1) Ar129.2.2 (inb_of S129 ⟨by decide, by decide⟩) (Has.at H129 (inb_of S129 ⟨by decide, by decide⟩) rfl) (g := (mkF m 131 #[.val (.int p0), .val (.ref a1), .val (.ref a38), .val (.int (7 : Int32)), .val (.ref b7), .val (.int (0 : Int32))] [(.int (7 : Int32)), (.ref a38), (.int (0 : Int32))])) rfl rfl (hb hby at_131) t kt) ?_
    refine Go.st (S' := T127.setTop (mkF m 135 #[.val (.int p0), .val (.ref a1), .val (.ref a38), .val (.int (7 : Int32)), .val (.ref b7), .val (.int (0 : Int32))] [])) (fun t kt => XS.icmpNo X127.here hx rfl (hb hby at_132) rfl (XT.ii_ne_f (by decide)) kt) ?_
    refine Go.st (S' := T127.setTop (mkF m 137 #[.val (.int p0), .val (.ref a1), .val (.ref a38), .val (.int (7 : Int32)), .val (.ref b7), .val (.int (0 : Int32))] [(.int (0 : Int32))])) (fun t kt => XS.iload X127.here hx rfl (hb hby at_135) rfl kt) ?_
    refine Go.st (S' := T127.setTop (mkF m 148 #[.val (.int p0), .val (.ref a1), .val (.ref a38), .val (.int (7 : Int32)), .val (.ref b7), .val (.int (0 : Int32))] [])) (fun t kt => XS.ifYes X127.here hx rfl (pc0 := 137) (pc' := 148) rfl (hb hby at_137) rfl (XT.i0_eq_t (by decide)) (by decide) (by decide) kt) ?_
    refine Go.st (S' := T127.setTop (mkF m 149 #[.val (.int p0), .val (.ref a1), .val (.ref a38), .val (.int (7 : Int32)), .val (.ref b7), .val (.int (0 : Int32))] [(.int (1 : Int32))])) (fun t kt => XS.iconst X127.here hx rfl (hb hby at_148) kt) ?_
    refine Go.st (S' := T127.setTop (mkF m 153 #[.val (.int p0), .val (.ref a1), .val (.ref a38), .val (.int (7 : Int32)), .val (.ref b7), .val (.int (0 : Int32))] [(.int (1 : Int32))])) (fun t kt => XS.goto X127.here hx rfl (pc0 := 149) (pc' := 153) rfl (hb hby at_149) (by decide) (by decide) kt) ?_
    exact ret_b X127 hx hlk hret (hb hby at_153) (by decide) (by decide) (⟨rfl, N127⟩)
  · rw [hi8]
    show Go pP eE below _ (T56.setTop (mkF m 115 #[.val (.int p0), .val (.ref a1), .val (.ref a38), .val (.int (8 : Int32)), .unset, .unset] []))
    refine Go.st (S' := T56.setTop (mkF m 116 #[.val (.int p0), .val (.ref a1), .val (.ref a38), .val (.int (8 : Int32)), .unset, .unset] [(.ref a1)])) (fun t kt => XS.aloadN X56.here hx rfl (hb hby at_115) rfl rfl kt) ?_
    refine Go.st (S' := T56.setTop (mkF m 117 #[.val (.int p0), .val (.ref a1), .val (.ref a38), .val (.int (8 : Int32)), .unset, .unset] [(.int (8 : Int32)), (.ref a1)])) (fun t kt => XS.iloadN X56.here hx rfl (hb hby at_116) rfl kt) ?_
    have f131 := ((((((((((V36.ext E38).other W48 (Nat.ne_of_lt (by rw [g38]; exact V36.lt))).other W49 (Nat.ne_of_lt (by rw [g38]; exact V36.lt))).other W50 (Nat.ne_of_lt (by rw [g38]; exact V36.lt))).other W51 (Nat.ne_of_lt (by rw [g38]; exact V36.lt))).other W52 (Nat.ne_of_lt (by rw [g38]; exact V36.lt))).other W53 (Nat.ne_of_lt (by rw [g38]; exact V36.lt))).other W54 (Nat.ne_of_lt (by rw [g38]; exact V36.lt))).other W55 (Nat.ne_of_lt (by rw [g38]; exact V36.lt))).other W56 (Nat.ne_of_lt (by rw [g38]; exact V36.lt)))
    obtain ⟨cl130, Ar130, q130, S130, M130, H130, G130⟩ := id f131
    refine Go.st (S' := T56.setTop (mkF m 118 #[.val (.int p0), .val (.ref a1), .val (.ref a38), .val (.int (8 : Int32)), .unset, .unset] [(.ref b8)])) (fun t kt => X56.aaload hx (j := (8 : Int32)) (v := (.ref b8)) (by rw [e56]; exact Ar130.1) (State.isArrayOf_alike hZ.alike Ar130.2.1) rfl Ar130.2.2 (inb_of S130 ⟨by decide, by decide⟩) (Has.at H130 (inb_of S130 ⟨by decide, by decide⟩) rfl) (g := (mkF m 117 #[.val (.int p0), .val (.ref a1), .val (.ref a38), .val (.int (8 : Int32)), .unset, .unset] [(.int (8 : Int32)), (.ref a1)])) rfl rfl (hb hby at_117) t kt) ?_
    refine Go.st (S' := T56.setTop (mkF m 120 #[.val (.int p0), .val (.ref a1), .val (.ref a38), .val (.int (8 : Int32)), .val (.ref b8), .unset] [])) (fun t kt => XS.astore X56.here hx rfl (hb hby at_118) rfl rfl rfl kt) ?_
    refine Go.st (S' := T56.setTop (mkF m 122 #[.val (.int p0), .val (.ref a1), .val (.ref a38), .val (.int (8 : Int32)), .val (.ref b8), .unset] [(.ref b8)])) (fun t kt => XS.aload X56.here hx rfl (hb hby at_120) rfl rfl kt) ?_
    have f132 := (Sta.wr W56 (Sta.wr W55 (Sta.wr W54 (Sta.wr W53 (Sta.wr W52 (Sta.wr W51 (Sta.wr W50 (Sta.wr W49 (Sta.wr W48 ((Sta.wr W36 (Sta.wr W32 (Sta.wr W28 (Sta.wr W24 (Sta.wr W20 (Sta.wr W16 (Sta.wr W12 (Sta.wr W8 (Sta.wr W4 f2))))))))).ext E38))))))))))
    have f133 := (Sta.wr W56 (Sta.wr W55 (Sta.wr W54 (Sta.wr W53 (Sta.wr W52 (Sta.wr W51 (Sta.wr W50 (Sta.wr W49 (Sta.wr W48 ((Sta.wr W36 (Sta.wr W32 (Sta.wr W28 (Sta.wr W24 (Sta.wr W20 (Sta.wr W16 (Sta.wr W12 (Sta.wr W8 f6)))))))).ext E38))))))))))
    have f134 := (Sta.wr W56 (Sta.wr W55 (Sta.wr W54 (Sta.wr W53 (Sta.wr W52 (Sta.wr W51 (Sta.wr W50 (Sta.wr W49 (Sta.wr W48 ((Sta.wr W36 (Sta.wr W32 (Sta.wr W28 (Sta.wr W24 (Sta.wr W20 (Sta.wr W16 (Sta.wr W12 f10))))))).ext E38))))))))))
    have f136 := (Exa.wr W56 (Exa.wr W55 (Exa.wr W54 (Exa.wr W53 (Exa.wr W52 (Exa.wr W51 (Exa.wr W50 (Exa.wr W49 (Exa.wr W48 (f47.ext E38))))))))))
    refine Go.virt X56 hx hZ hown (hw _ (List.mem_of_getElem? (i := 24) rfl)) (hw _ (List.mem_of_getElem? (i := 25) rfl)) (notFace_of_selects (mvT (args := #[]) hZ (hw _ (List.mem_of_getElem? (i := 27) rfl)))) (hw _ (List.mem_of_getElem? (i := 27) rfl)) (hw _ (List.mem_of_getElem? (i := 26) rfl)) (hw _ (List.mem_of_getElem? (i := 28) rfl)) (hw _ (List.mem_of_getElem? (i := 3) rfl)) (by decide) (b := b8) (argsL := []) (rest := []) (rm1 l Z a0 hw b8 b0 b1 b2 (0 : Int32) h56 n0 Z56 f132 f133 f134 (by simp [d80, d81, d82])) e56 f136 rfl (by rw [hml]; rfl) pd___Z rfl (hb hby at_122) 0 (Nat.le_refl _) (by decide) (by decide) (by decide) (by decide) ?_
    intro v135 T135 L135 X135 hQ135
    obtain ⟨hv135, N135', e135⟩ := hQ135
    subst hv135
    have N135 := Fr.app N56 N135'
    show Go pP eE below _ (T135.setTop (mkF m 125 #[.val (.int p0), .val (.ref a1), .val (.ref a38), .val (.int (8 : Int32)), .val (.ref b8), .unset] [(.int (0 : Int32))]))
    refine Go.st (S' := T135.setTop (mkF m 127 #[.val (.int p0), .val (.ref a1), .val (.ref a38), .val (.int (8 : Int32)), .val (.ref b8), .val (.int (0 : Int32))] [])) (fun t kt => XS.istore X135.here hx rfl (hb hby at_125) rfl rfl kt) ?_
    refine Go.st (S' := T135.setTop (mkF m 129 #[.val (.int p0), .val (.ref a1), .val (.ref a38), .val (.int (8 : Int32)), .val (.ref b8), .val (.int (0 : Int32))] [(.int (0 : Int32))])) (fun t kt => XS.iload X135.here hx rfl (hb hby at_127) rfl kt) ?_
    refine Go.st (S' := T135.setTop (mkF m 130 #[.val (.int p0), .val (.ref a1), .val (.ref a38), .val (.int (8 : Int32)), .val (.ref b8), .val (.int (0 : Int32))] [(.ref a38), (.int (0 : Int32))])) (fun t kt => XS.aloadN X135.here hx rfl (hb hby at_129) rfl rfl kt) ?_
    refine Go.st (S' := T135.setTop (mkF m 131 #[.val (.int p0), .val (.ref a1), .val (.ref a38), .val (.int (8 : Int32)), .val (.ref b8), .val (.int (0 : Int32))] [(.int (8 : Int32)), (.ref a38), (.int (0 : Int32))])) (fun t kt => XS.iloadN X135.here hx rfl (hb hby at_130) rfl kt) ?_
    obtain ⟨cl137, Ar137, q137, S137, M137, H137, G137⟩ := id V56
    refine Go.st (S' := T135.setTop (mkF m 132 #[.val (.int p0), .val (.ref a1), .val (.ref a38), .val (.int (8 : Int32)), .val (.ref b8), .val (.int (0 : Int32))] [(.int (0 : Int32)), (.int (0 : Int32))])) (fun t kt => X135.baloadBooleans hx (j := (8 : Int32)) (v := (.int (0 : Int32))) (by rw [e135]; exact Ar137.1) (State.isArrayOf_alike hZ.alike Ar137.2.1) Ar137.2.2 (inb_of S137 ⟨by decide, by decide⟩) (Has.at H137 (inb_of S137 ⟨by decide, by decide⟩) rfl) (g := (mkF m 131 #[.val (.int p0), .val (.ref a1), .val (.ref a38), .val (.int (8 : Int32)), .val (.ref b8), .val (.int (0 : Int32))] [(.int (8 : Int32)), (.ref a38), (.int (0 : Int32))])) rfl rfl (hb hby at_131) t kt) ?_
    refine Go.st (S' := T135.setTop (mkF m 135 #[.val (.int p0), .val (.ref a1), .val (.ref a38), .val (.int (8 : Int32)), .val (.ref b8), .val (.int (0 : Int32))] [])) (fun t kt => XS.icmpNo X135.here hx rfl (hb hby at_132) rfl (XT.ii_ne_f (by decide)) kt) ?_
    refine Go.st (S' := T135.setTop (mkF m 137 #[.val (.int p0), .val (.ref a1), .val (.ref a38), .val (.int (8 : Int32)), .val (.ref b8), .val (.int (0 : Int32))] [(.int (0 : Int32))])) (fun t kt => XS.iload X135.here hx rfl (hb hby at_135) rfl kt) ?_
    refine Go.st (S' := T135.setTop (mkF m 148 #[.val (.int p0), .val (.ref a1), .val (.ref a38), .val (.int (8 : Int32)), .val (.ref b8), .val (.int (0 : Int32))] [])) (fun t kt => XS.ifYes X135.here hx rfl (pc0 := 137) (pc' := 148) rfl (hb hby at_137) rfl (XT.i0_eq_t (by decide)) (by decide) (by decide) kt) ?_
    refine Go.st (S' := T135.setTop (mkF m 149 #[.val (.int p0), .val (.ref a1), .val (.ref a38), .val (.int (8 : Int32)), .val (.ref b8), .val (.int (0 : Int32))] [(.int (1 : Int32))])) (fun t kt => XS.iconst X135.here hx rfl (hb hby at_148) kt) ?_
    refine Go.st (S' := T135.setTop (mkF m 153 #[.val (.int p0), .val (.ref a1), .val (.ref a38), .val (.int (8 : Int32)), .val (.ref b8), .val (.int (0 : Int32))] [(.int (1 : Int32))])) (fun t kt => XS.goto X135.here hx rfl (pc0 := 149) (pc' := 153) rfl (hb hby at_149) (by decide) (by decide) kt) ?_
    exact ret_b X135 hx hlk hret (hb hby at_153) (by decide) (by decide) (⟨rfl, N135⟩)
theorem own_fld_int {args : Array Value} {s : State} {t : Term} {a : Addr} {C n d : String} {k : Int32} (ht : t.eval args s none [] s = some (.ref a)) (h : (Jvm.Cond.eq (.field t C n d) (.int k)).value args s none s [] = some true) : s.fieldOf? a C n d = some (.int k) := by
  have q := eqv_i (Term.int_eval k) h
  rw [fld_at ht] at q
  exact q
set_option maxRecDepth 65536 in
set_option maxHeartbeats 40000000 in
theorem comes_1 {Post : Tables → Env → Array Value → State → Outcome → State → Prop} (hpost : ∀ tb e args s v u, (limb_1_1.after args s (.returned v) u = true ∧ limb_1_2.after args s (.returned v) u = true ∧ True) → FrameEnd s (.returned v) u (Jvm.fieldLocs frame_1_writes args s ++ Jvm.arrayLocs frame_1_arrays args s ++ Jvm.staticLocs frame_1_statics s) 16 128 → Post tb e args s (.returned v) u) :
    ArmFor flags0 classFile x code maxLocals ret World_1 tables_1 room_1 Calls_1 rest_1 Pre_1 Post := by
  intro l hfl _ _ p e ha hc hk s m args below hf hA hF happ hP
  obtain ⟨hcalls, hrest, hpre⟩ := hP
  obtain ⟨-, -, -, hnamed, -, hinit0, -, hat⟩ := (Spec.applies_iff hf).mp happ
  obtain ⟨hg, hn⟩ := and_e (Cond.before_iff.mp (show (Jvm.Cond.and given_1 narrow_1).before args s = true from hpre))
  obtain ⟨hcount, hg0⟩ := and_e hg
  obtain ⟨w0, rfl⟩ : ∃ w0 : Value, args = #[w0] := by
    have hs : args.size = 1 := by simpa [Cond.value, given_1] using hcount
    obtain ⟨L⟩ := args
    match L, hs with
    | [w0], _ => exact ⟨w0, rfl⟩
  have hw := fun d (hd : d ∈ tables_1) => atoms_spec (ws := Jvm.Cond.code x code maxLocals ret :: tables_1) hat d (List.mem_cons_of_mem _ hd)
  have hfit : Fit s := fun {y c} hc i hi => by
    obtain ⟨ha, rfl⟩ := Array.getElem?_eq_some_iff.mp hc
    have q := List.all_eq_true.mp ((Array.all_eq_true_iff_forall_mem.mp hF) _ (Array.getElem_mem ha)) i (List.mem_range.mpr hi)
    simpa [Array.getElem?_eq_getElem hi] using q
  obtain ⟨i0, ei0⟩ := is_v hg0
  obtain rfl : w0 = (.int i0) := Option.some.inj ei0
  obtain ⟨n0, hn⟩ := and_e hn
  obtain ⟨n1, hn⟩ := and_e hn
  obtain ⟨n2, hn⟩ := and_e hn
  obtain ⟨n3, hn⟩ := and_e hn
  obtain ⟨n4, hn⟩ := and_e hn
  obtain ⟨n5, hn⟩ := and_e hn
  obtain ⟨n6, hn⟩ := and_e hn
  obtain ⟨n7, hn⟩ := and_e hn
  obtain ⟨n8, hn⟩ := and_e hn
  obtain ⟨n9, hn⟩ := and_e hn
  obtain ⟨n10, hn⟩ := and_e hn
  obtain ⟨n11, hn⟩ := and_e hn
  obtain ⟨n12, hn⟩ := and_e hn
  obtain ⟨n13, hn⟩ := and_e hn
  obtain ⟨n14, hn⟩ := and_e hn
  obtain ⟨n15, hn⟩ := and_e hn
  obtain ⟨n16, n17⟩ := and_e hn
  obtain ⟨b0, vb0⟩ := exa_v n0
  have Sb0 := Sta.start vb0 (Or.inr ⟨(hw _ (List.mem_of_getElem? (i := 3) rfl)), (hw _ (List.mem_of_getElem? (i := 4) rfl))⟩)
  have Eb0 := Exa.start vb0 n0
  obtain ⟨b1, vb1⟩ := exa_v n1
  have Sb1 := Sta.start vb1 (Or.inr ⟨(hw _ (List.mem_of_getElem? (i := 3) rfl)), (hw _ (List.mem_of_getElem? (i := 7) rfl))⟩)
  have Eb1 := Exa.start vb1 n1
  obtain ⟨b2, vb2⟩ := exa_v n2
  have Sb2 := Sta.start vb2 (Or.inr ⟨(hw _ (List.mem_of_getElem? (i := 3) rfl)), (hw _ (List.mem_of_getElem? (i := 9) rfl))⟩)
  have Eb2 := Exa.start vb2 n2
  obtain ⟨b3, vb3⟩ := exa_v n3
  have Sb3 := Sta.start vb3 (Or.inr ⟨(hw _ (List.mem_of_getElem? (i := 3) rfl)), (hw _ (List.mem_of_getElem? (i := 11) rfl))⟩)
  have Eb3 := Exa.start vb3 n3
  obtain ⟨b4, vb4⟩ := exa_v n4
  have Sb4 := Sta.start vb4 (Or.inr ⟨(hw _ (List.mem_of_getElem? (i := 3) rfl)), (hw _ (List.mem_of_getElem? (i := 13) rfl))⟩)
  have Eb4 := Exa.start vb4 n4
  obtain ⟨b5, vb5⟩ := exa_v n5
  have Sb5 := Sta.start vb5 (Or.inr ⟨(hw _ (List.mem_of_getElem? (i := 3) rfl)), (hw _ (List.mem_of_getElem? (i := 15) rfl))⟩)
  have Eb5 := Exa.start vb5 n5
  obtain ⟨b6, vb6⟩ := exa_v n6
  have Sb6 := Sta.start vb6 (Or.inr ⟨(hw _ (List.mem_of_getElem? (i := 3) rfl)), (hw _ (List.mem_of_getElem? (i := 17) rfl))⟩)
  have Eb6 := Exa.start vb6 n6
  obtain ⟨b7, vb7⟩ := exa_v n7
  have Sb7 := Sta.start vb7 (Or.inr ⟨(hw _ (List.mem_of_getElem? (i := 3) rfl)), (hw _ (List.mem_of_getElem? (i := 19) rfl))⟩)
  have Eb7 := Exa.start vb7 n7
  obtain ⟨b8, vb8⟩ := exa_v n8
  have Sb8 := Sta.start vb8 (Or.inr ⟨(hw _ (List.mem_of_getElem? (i := 3) rfl)), (hw _ (List.mem_of_getElem? (i := 21) rfl))⟩)
  have Eb8 := Exa.start vb8 n8
  have Fb0 := Fld.start (own_fld_int vb0 n9)
  have Fb4 := Fld.start (own_fld_int vb4 n10)
  have Fb5 := Fld.start (own_fld_int vb5 n11)
  have Fb3 := Fld.start (own_fld_int vb3 n12)
  have Fb1 := Fld.start (own_fld_int vb1 n13)
  have Fb2 := Fld.start (own_fld_int vb2 n14)
  have Fb7 := Fld.start (own_fld_int vb7 n15)
  have Fb8 := Fld.start (own_fld_int vb8 n16)
  have Fb6 := Fld.start (own_fld_int vb6 n17)
  obtain ⟨n, o, h1, h2, h3, _, L, rfl, ⟨rfl, N⟩, hq⟩ := rm0 l s _ hw i0 s.heap s.heap.size (Nat.le_refl _) b0 b1 b2 b3 b4 b5 b6 b7 b8 Sb0 Sb1 Sb2 Sb3 Sb4 Sb5 Sb6 Sb7 Sb8 Eb0 Eb1 Eb2 Eb3 Eb4 Eb5 Eb6 Eb7 Eb8 (Fld.ne Fb3 Fb0 (by decide)) (Fld.ne Fb3 Fb1 (by decide)) (Fld.ne Fb3 Fb2 (by decide)) (Fld.ne Fb4 Fb0 (by decide)) (Fld.ne Fb4 Fb1 (by decide)) (Fld.ne Fb4 Fb2 (by decide)) (Fld.ne Fb5 Fb0 (by decide)) (Fld.ne Fb5 Fb1 (by decide)) (Fld.ne Fb5 Fb2 (by decide)) (Fld.ne Fb6 Fb0 (by decide)) (Fld.ne Fb6 Fb1 (by decide)) (Fld.ne Fb6 Fb2 (by decide)) (Fld.ne Fb7 Fb0 (by decide)) (Fld.ne Fb7 Fb1 (by decide)) (Fld.ne Fb7 Fb2 (by decide)) (Fld.ne Fb8 Fb0 (by decide)) (Fld.ne Fb8 Fb1 (by decide)) (Fld.ne Fb8 Fb2 (by decide)) (Fld.ne Fb0 Fb4 (by decide)) (Fld.ne Fb0 Fb5 (by decide)) (Fld.ne Fb1 Fb4 (by decide)) (Fld.ne Fb1 Fb5 (by decide)) (Fld.ne Fb2 Fb4 (by decide)) (Fld.ne Fb2 Fb5 (by decide)) tables_1 p e ha hc hk s m _ below hf ((Spec.applies_iff_loose hf).mp happ).1 ⟨rfl, State.Warmed39.refl s, rfl⟩ trivial
  refine ⟨n, _, h1, h2, h3, hpost _ _ _ _ _ _ ⟨Cond.after_iff.mpr rfl, Cond.after_iff.mpr (eq_i res_at (Term.int_eval (1)) rfl), trivial⟩ ⟨hq.1, hq.2.1, (hq.2.2.sift fun y hy => Or.inr (N y hy)).mono (by decide) (by decide)⟩⟩
theorem main_1_1 : Claimed_1_1 := comes_1 fun _ _ _ _ _ _ h hF => ⟨h.1, hF⟩
theorem main_1_2 : Claimed_1_2 := comes_1 fun _ _ _ _ _ _ h hF => ⟨h.2.1, hF⟩
end Jvm.Pilot.@@N@@
namespace Jvm.Pilot.@@N@@
open Jvm Jvm.ClassFile Sem Op Lib Jvm.Free Jvm.Stand Jvm.Pilot.@@N@@.Jvm.D
/-! MADE BY PROGRAM (witnessworld.py) out of the Statement's table words and the real class files: 15 classes; the members and pool entries that the words name. The judged class is class 1, her method 1. -/
namespace start1
open Jvm.ClassFile
def u (s : String) : CpInfo := .utf8 (stringToUtf16 s)
/-- a pool by its gaps: so many unusable entries, then the entry; so many at the end -/
def gap : Nat → List CpInfo → List CpInfo
  | 0, r => r
  | n + 1, r => .unusable :: gap n r
def poolList (es : List (Nat × CpInfo)) (last : Nat) : List CpInfo := es.foldr (fun e r => gap e.1 (e.2 :: r)) (gap last [])
def pool (es : List (Nat × CpInfo)) (last : Nat) : Array CpInfo := ⟨poolList es last⟩
def fileOf (pool : Array CpInfo) (this : Nat) (attrs : Array Attribute := #[]) (ms : Array MethodInfo := #[]) (fl : Nat := 33) (sup : Nat := 0) (ifs : Array Nat := #[]) (fds : Array FieldInfo := #[]) : ClassFile where
  minorVersion := 0
  majorVersion := 65
  constantPool := pool
  accessFlags := fl
  thisClass := this
  superClass := sup
  interfaces := ifs
  fields := fds
  methods := ms
  attributes := attrs
def plain (name : String) (sup : Option ClassId) : Class where
  name := name
  kind := .ordinary
  loader := none
  accessFlags := 33
  super := sup
  interfaces := #[]
  cf := none
  fields := #[]
  methods := #[]
  instanceTypes := #[]
  staticTypes := #[]
  resolved := #[]
  callSites := []
  init := .initialized
  statics := none
  mirror := none

def pool0 : Array CpInfo := pool [(5, u "<init>"), (0, u "()V"), (1, .class_ 10), (1, u "java/lang/Object")] 113

def k0m0 : Method := { name := "<init>", desc := "()V", sig := { parameters := [], returnType := none }, accessFlags := 1, code := none }
/-- java/lang/Object -/
def k0 : Class := { plain "java/lang/Object" none with
  accessFlags := 33
  interfaces := #[]
  cf := some (fileOf pool0 8 #[] #[{ accessFlags := 1, nameIndex := 5, descriptorIndex := 6, attributes := #[] }] 33 0 #[] #[])
  fields := #[]
  methods := #[k0m0]
  instanceTypes := #[]
  staticTypes := #[]
  resolved := Array.replicate 124 none
  statics := none }

def pool1 : Array CpInfo := pool [(2, .class_ 4), (1, u "java/lang/Object"), (0, u "<init>"), (0, u "()V"), (0, .class_ 8), (0, u "com/example/forecache/forecache/TableRules$Type"), (0, .fieldref 7 10), (0, .nameAndType 11 12), (0, u "SMALLINT"), (0, u "Lcom/example/forecache/forecache/TableRules$Type;"), (0, .fieldref 7 14), (0, .nameAndType 15 12), (0, u "INTEGER"), (0, .fieldref 7 17), (0, .nameAndType 18 12), (0, u "BIGINT"), (0, .fieldref 7 20), (0, .nameAndType 21 12), (0, u "NUMERIC"), (0, .fieldref 7 23), (0, .nameAndType 24 12), (0, u "VARCHAR"), (0, .fieldref 7 26), (0, .nameAndType 27 12), (0, u "TEXT"), (0, .fieldref 7 29), (0, .nameAndType 30 12), (0, u "TIMESTAMP"), (0, .fieldref 7 32), (0, .nameAndType 33 12), (0, u "DATE"), (0, .fieldref 7 35), (0, .nameAndType 36 12), (0, u "OTHER"), (0, .integer 2147483647), (0, .methodref 7 39), (0, .nameAndType 40 41), (0, u "isWhole"), (0, u "()Z"), (0, .methodref 7 43), (0, .nameAndType 44 41), (0, u "isText"), (0, .class_ 46), (0, u "com/example/forecache/forecache/TypeIsWholePinLaw"), (2, u "law"), (0, u "(I)Z")] 11

def k1m0 : Method := { name := "<init>", desc := "()V", sig := { parameters := [], returnType := none }, accessFlags := 1, code := none }
def k1c1 : Code := { maxStack := 4, maxLocals := 6, code := code, exceptionTable := #[], attributes := #[] }
def k1m1 : Method := { name := "law", desc := "(I)Z", sig := { parameters := [.int], returnType := some .boolean }, accessFlags := 9, code := some k1c1 }
/-- com/example/forecache/forecache/TypeIsWholePinLaw -/
def k1 : Class := { plain "com/example/forecache/forecache/TypeIsWholePinLaw" (some 0) with
  accessFlags := 49
  interfaces := #[]
  cf := some (fileOf pool1 45 #[] #[{ accessFlags := 1, nameIndex := 5, descriptorIndex := 6, attributes := #[] }, { accessFlags := 9, nameIndex := 49, descriptorIndex := 50, attributes := #[] }] 49 2 #[] #[])
  fields := #[]
  methods := #[k1m0, k1m1]
  instanceTypes := #[]
  staticTypes := #[]
  resolved := Array.replicate 62 none
  statics := none }

def pool2 : Array CpInfo := pool [(1, .class_ 2), (0, u "java/lang/constant/Constable"), (0, .class_ 4), (0, u "java/lang/Object")] 6

/-- java/lang/constant/Constable -/
def k2 : Class := { plain "java/lang/constant/Constable" (some 0) with
  accessFlags := 1537
  interfaces := #[]
  cf := some (fileOf pool2 1 #[] #[] 1537 3 #[] #[])
  fields := #[]
  methods := #[]
  instanceTypes := #[]
  staticTypes := #[]
  resolved := Array.replicate 11 none
  statics := none }

def pool3 : Array CpInfo := pool [(1, .class_ 2), (0, u "java/lang/Comparable"), (0, .class_ 4), (0, u "java/lang/Object")] 7

/-- java/lang/Comparable -/
def k3 : Class := { plain "java/lang/Comparable" (some 0) with
  accessFlags := 1537
  interfaces := #[]
  cf := some (fileOf pool3 1 #[] #[] 1537 3 #[] #[])
  fields := #[]
  methods := #[]
  instanceTypes := #[]
  staticTypes := #[]
  resolved := Array.replicate 12 none
  statics := none }

def pool4 : Array CpInfo := pool [(1, .class_ 2), (0, u "java/io/Serializable"), (0, .class_ 4), (0, u "java/lang/Object")] 2

/-- java/io/Serializable -/
def k4 : Class := { plain "java/io/Serializable" (some 0) with
  accessFlags := 1537
  interfaces := #[]
  cf := some (fileOf pool4 1 #[] #[] 1537 3 #[] #[])
  fields := #[]
  methods := #[]
  instanceTypes := #[]
  staticTypes := #[]
  resolved := Array.replicate 7 none
  statics := none }

def pool5 : Array CpInfo := pool [(2, .class_ 4), (1, u "java/lang/Enum"), (0, u "name"), (0, u "Ljava/lang/String;"), (2, u "ordinal"), (0, u "I"), (1, .class_ 14), (1, u "java/lang/Object"), (4, u "hash"), (86, .class_ 108), (1, u "java/lang/Enum$EnumDesc"), (2, .class_ 112), (0, u "java/lang/constant/Constable"), (0, .class_ 114), (0, u "java/lang/Comparable"), (0, .class_ 116), (0, u "java/io/Serializable")] 87

/-- java/lang/Enum -/
def k5 : Class := { plain "java/lang/Enum" (some 0) with
  accessFlags := 1057
  interfaces := #[2, 3, 4]
  cf := some (fileOf pool5 2 #[.nestMembers #[106]] #[] 1057 12 #[111, 113, 115] #[{ accessFlags := 18, nameIndex := 5, descriptorIndex := 6, attributes := #[] }, { accessFlags := 18, nameIndex := 9, descriptorIndex := 10, attributes := #[] }, { accessFlags := 2, nameIndex := 19, descriptorIndex := 10, attributes := #[] }])
  fields := #[{ name := "name", type := (.object "java/lang/String"), accessFlags := 18, slot := 0, constantValue := 0 }, { name := "ordinal", type := .int, accessFlags := 18, slot := 1, constantValue := 0 }, { name := "hash", type := .int, accessFlags := 2, slot := 2, constantValue := 0 }]
  methods := #[]
  instanceTypes := #[(.object "java/lang/String"), .int, .int]
  staticTypes := #[]
  resolved := Array.replicate 204 none
  statics := none }

def pool6 : Array CpInfo := pool [(1, .class_ 2), (0, u "com/example/forecache/forecache/TableRules$Type"), (0, .fieldref 1 4), (0, .nameAndType 5 6), (0, u "SMALLINT"), (0, u "Lcom/example/forecache/forecache/TableRules$Type;"), (0, .fieldref 1 8), (0, .nameAndType 9 6), (0, u "INTEGER"), (0, .fieldref 1 11), (0, .nameAndType 12 6), (0, u "BIGINT"), (2, u "NUMERIC"), (0, .fieldref 1 17), (0, .nameAndType 18 6), (0, u "VARCHAR"), (0, .fieldref 1 20), (0, .nameAndType 21 6), (0, u "TEXT"), (2, u "TIMESTAMP"), (2, u "DATE"), (2, u "OTHER"), (2, u "$VALUES"), (0, u "[Lcom/example/forecache/forecache/TableRules$Type;"), (6, .class_ 43), (1, u "java/lang/Enum"), (8, u "typeName"), (0, u "Ljava/lang/String;"), (2, u "castName"), (84, u "isWhole"), (0, u "()Z"), (1, u "isText"), (8, .class_ 154), (0, u "com/example/forecache/forecache/TableRules")] 21

def k6c0 : Code := { maxStack := 2, maxLocals := 1, code := prog_109_method_5_code, exceptionTable := #[], attributes := #[] }
def k6m0 : Method := { name := "isWhole", desc := "()Z", sig := { parameters := [], returnType := some .boolean }, accessFlags := 0, code := some k6c0 }
def k6c1 : Code := { maxStack := 2, maxLocals := 1, code := prog_109_method_6_code, exceptionTable := #[], attributes := #[] }
def k6m1 : Method := { name := "isText", desc := "()Z", sig := { parameters := [], returnType := some .boolean }, accessFlags := 0, code := some k6c1 }
/-- com/example/forecache/forecache/TableRules$Type -/
def k6 : Class := { plain "com/example/forecache/forecache/TableRules$Type" (some 5) with
  accessFlags := 16432
  interfaces := #[]
  cf := some (fileOf pool6 1 #[.nestHost 153] #[{ accessFlags := 0, nameIndex := 141, descriptorIndex := 142, attributes := #[] }, { accessFlags := 0, nameIndex := 144, descriptorIndex := 142, attributes := #[] }] 16432 41 #[] #[{ accessFlags := 16409, nameIndex := 5, descriptorIndex := 6, attributes := #[] }, { accessFlags := 16409, nameIndex := 9, descriptorIndex := 6, attributes := #[] }, { accessFlags := 16409, nameIndex := 12, descriptorIndex := 6, attributes := #[] }, { accessFlags := 16409, nameIndex := 15, descriptorIndex := 6, attributes := #[] }, { accessFlags := 16409, nameIndex := 18, descriptorIndex := 6, attributes := #[] }, { accessFlags := 16409, nameIndex := 21, descriptorIndex := 6, attributes := #[] }, { accessFlags := 16409, nameIndex := 24, descriptorIndex := 6, attributes := #[] }, { accessFlags := 16409, nameIndex := 27, descriptorIndex := 6, attributes := #[] }, { accessFlags := 16409, nameIndex := 30, descriptorIndex := 6, attributes := #[] }, { accessFlags := 18, nameIndex := 52, descriptorIndex := 53, attributes := #[] }, { accessFlags := 18, nameIndex := 56, descriptorIndex := 53, attributes := #[] }, { accessFlags := 4122, nameIndex := 33, descriptorIndex := 34, attributes := #[] }])
  fields := #[{ name := "SMALLINT", type := (.object "com/example/forecache/forecache/TableRules$Type"), accessFlags := 16409, slot := 0, constantValue := 0 }, { name := "INTEGER", type := (.object "com/example/forecache/forecache/TableRules$Type"), accessFlags := 16409, slot := 1, constantValue := 0 }, { name := "BIGINT", type := (.object "com/example/forecache/forecache/TableRules$Type"), accessFlags := 16409, slot := 2, constantValue := 0 }, { name := "NUMERIC", type := (.object "com/example/forecache/forecache/TableRules$Type"), accessFlags := 16409, slot := 3, constantValue := 0 }, { name := "VARCHAR", type := (.object "com/example/forecache/forecache/TableRules$Type"), accessFlags := 16409, slot := 4, constantValue := 0 }, { name := "TEXT", type := (.object "com/example/forecache/forecache/TableRules$Type"), accessFlags := 16409, slot := 5, constantValue := 0 }, { name := "TIMESTAMP", type := (.object "com/example/forecache/forecache/TableRules$Type"), accessFlags := 16409, slot := 6, constantValue := 0 }, { name := "DATE", type := (.object "com/example/forecache/forecache/TableRules$Type"), accessFlags := 16409, slot := 7, constantValue := 0 }, { name := "OTHER", type := (.object "com/example/forecache/forecache/TableRules$Type"), accessFlags := 16409, slot := 8, constantValue := 0 }, { name := "typeName", type := (.object "java/lang/String"), accessFlags := 18, slot := 3, constantValue := 0 }, { name := "castName", type := (.object "java/lang/String"), accessFlags := 18, slot := 4, constantValue := 0 }, { name := "$VALUES", type := (.array (.object "com/example/forecache/forecache/TableRules$Type")), accessFlags := 4122, slot := 9, constantValue := 0 }]
  methods := #[k6m0, k6m1]
  instanceTypes := #[(.object "java/lang/String"), .int, .int, (.object "java/lang/String"), (.object "java/lang/String")]
  staticTypes := #[(.object "com/example/forecache/forecache/TableRules$Type"), (.object "com/example/forecache/forecache/TableRules$Type"), (.object "com/example/forecache/forecache/TableRules$Type"), (.object "com/example/forecache/forecache/TableRules$Type"), (.object "com/example/forecache/forecache/TableRules$Type"), (.object "com/example/forecache/forecache/TableRules$Type"), (.object "com/example/forecache/forecache/TableRules$Type"), (.object "com/example/forecache/forecache/TableRules$Type"), (.object "com/example/forecache/forecache/TableRules$Type"), (.array (.object "com/example/forecache/forecache/TableRules$Type"))]
  resolved := Array.replicate 176 none
  statics := some 0 }

def pool7 : Array CpInfo := pool [(1, u "java/lang/Cloneable"), (0, .class_ 1), (0, u "java/lang/Object"), (0, .class_ 3)] 3

/-- java/lang/Cloneable -/
def k7 : Class := { plain "java/lang/Cloneable" (some 0) with
  accessFlags := 1537
  interfaces := #[]
  cf := some (fileOf pool7 2 #[] #[] 1537 4 #[] #[])
  fields := #[]
  methods := #[]
  instanceTypes := #[]
  staticTypes := #[]
  resolved := Array.replicate 8 none
  statics := none }

/-- the primitive boolean -/
def k8 : Class := { plain "boolean" none with kind := .primitive 'Z', accessFlags := 0x411 }
/-- [Z -/
def k9 : Class := { plain "[Z" (some 0) with kind := .array 8 .boolean, interfaces := #[7, 4], accessFlags := 1041 }

/-- the primitive byte -/
def k10 : Class := { plain "byte" none with kind := .primitive 'B', accessFlags := 0x411 }
/-- [B -/
def k11 : Class := { plain "[B" (some 0) with kind := .array 10 .byte, interfaces := #[7, 4], accessFlags := 1041 }

/-- the primitive int -/
def k12 : Class := { plain "int" none with kind := .primitive 'I', accessFlags := 0x411 }
/-- [I -/
def k13 : Class := { plain "[I" (some 0) with kind := .array 12 .int, interfaces := #[7, 4], accessFlags := 1041 }

/-- [Lcom/example/forecache/forecache/TableRules$Type; -/
def k14 : Class := { plain "[Lcom/example/forecache/forecache/TableRules$Type;" (some 0) with kind := .array 6 (.object "com/example/forecache/forecache/TableRules$Type"), interfaces := #[7, 4], accessFlags := 1041 }

def heap : Heap := #[{ cls := 6, slots := #[.ref 1, .ref 2, .ref 3, .ref 4, .ref 5, .ref 6, .ref 7, .ref 8, .ref 9, .null], vm := .statics 6 },
  { cls := 6, slots := #[.null, .int 0, .int 0, .null, .null], vm := .none },
  { cls := 6, slots := #[.null, .int 1, .int 0, .null, .null], vm := .none },
  { cls := 6, slots := #[.null, .int 2, .int 0, .null, .null], vm := .none },
  { cls := 6, slots := #[.null, .int 3, .int 0, .null, .null], vm := .none },
  { cls := 6, slots := #[.null, .int 4, .int 0, .null, .null], vm := .none },
  { cls := 6, slots := #[.null, .int 5, .int 0, .null, .null], vm := .none },
  { cls := 6, slots := #[.null, .int 6, .int 0, .null, .null], vm := .none },
  { cls := 6, slots := #[.null, .int 7, .int 0, .null, .null], vm := .none },
  { cls := 6, slots := #[.null, .int 8, .int 0, .null, .null], vm := .none }]
def classes : Array Class := #[k0, k1, k2, k3, k4, k5, k6, k7, k8, k9, k10, k11, k12, k13, k14]
def interned : List (Array UInt16 × Addr) := []
def slotsUsed : Nat := 55
def theMethod : MethodId := ⟨1, 1⟩
def args0 : Array Value := #[.int 5]
def aboutOver (below : List Frame) : State where
  vm := { classes := classes, interned := interned.toArray }
  heap := heap
  slotsUsed := slotsUsed
  threads := #[{ frames := .invoking theMethod args0 :: below }]
def below0 : List Frame := [.native { method := ⟨0, 0⟩, args := #[] }]
def about1 : State := aboutOver below0
def p0 : Program := .bare "" "" ""
def e0 : Env := launch0.env 0 0 0
theorem w_frames : about1.frames = Frame.invoking theMethod args0 :: below0 := rfl
set_option maxRecDepth 65536 in
theorem w_args : argsFit about1.vm theMethod args0 = true := by decide +kernel
set_option maxRecDepth 65536 in
theorem w_heap : heapFits about1 = true := by decide +kernel
set_option maxRecDepth 65536 in
theorem w_runnable : about1.curStatus? = some .runnable := by decide +kernel
set_option maxRecDepth 65536 in
theorem w_alone : about1.alone = true := by decide +kernel
set_option maxRecDepth 65536 in
theorem w_named : about1.methodNamed? x = some theMethod := by decide +kernel
set_option maxRecDepth 65536 in
theorem w_hears : about1.hears theMethod below0 = true := by decide +kernel
set_option maxRecDepth 65536 in
theorem w_ripe : about1.ripe theMethod args0 below0 = true := by decide +kernel
theorem w_running : about1.status = .running := rfl
set_option maxRecDepth 65536 in
theorem w_room : about1.hasRoom e0.platform room_1 = true :=
  launch0.hasRoom_least _ room_1 (by decide +kernel) (by decide +kernel) (by decide +kernel) (by decide +kernel) (by decide +kernel) (by decide +kernel)
theorem allAtoms_all (ts : List Jvm.Cond) (a : Array Jvm.Value) (st : Jvm.State) : (allAtoms ts).before a st = ts.all (fun c => c.before a st) := by
  induction ts with
  | nil => rfl
  | cons c t ih =>
    show (Jvm.Cond.and c (allAtoms t)).before a st = _
    rw [Jvm.Cond.before_and, ih, List.all_cons]
def words1 : List Jvm.Cond := Jvm.Cond.code x code maxLocals ret :: tables_1
/-- a 'code' word, met by the world's own term for the bytes: nothing is compared byte by byte -/
theorem code_word {y : MethodName} {bytes : ByteArray} {mx : Nat} {rt : Option FieldType} {a : Array Value} {s : State} {m : MethodId} {meth : Method} {c : Code} (h1 : s.methodNamed? y = some m) (h2 : s.vm.method? m = some meth) (h3 : meth.code = some c) (h4 : c.code = bytes)
    (h5 : (c.maxLocals == mx && c.exceptionTable.isEmpty && decide (c.maxStack ≤ mostOperands) && decide (meth.sig.returnType = rt) && !meth.locks && decide (parseMethodDescriptor y.desc = some meth.sig)) = true) : (Jvm.Cond.code y bytes mx rt).before a s = true := by
  simp only [Bool.and_eq_true, beq_iff_eq, Bool.not_eq_true', decide_eq_true_eq] at h5
  obtain ⟨⟨⟨⟨⟨g1, g2⟩, g3⟩, g4⟩, g5⟩, g6⟩ := h5
  simp [Cond.before, Cond.holds, Cond.value, h1, h2, h3, h4, g1, g2, g3, g4, g5, g6]
def isCode : Jvm.Cond → Bool
  | .code _ _ _ _ => true
  | _ => false
theorem all_split {L : List Jvm.Cond} {P : Jvm.Cond → Bool} (h1 : L.all (fun c => isCode c || P c) = true) (h2 : ∀ c ∈ L.filter isCode, P c = true) : L.all P = true := by
  refine List.all_eq_true.mpr fun c hc => ?_
  have h := List.all_eq_true.mp h1 c hc
  rcases Bool.eq_false_or_eq_true (isCode c) with hi | hi
  · exact h2 c (List.mem_filter.mpr ⟨hc, hi⟩)
  · simpa [hi] using h
set_option maxRecDepth 65536 in
theorem w_c0 : (Jvm.Cond.code x code maxLocals ret).before args0 about1 = true := code_word (m := ⟨1, 1⟩) (meth := k1m1) (c := k1c1) (by decide +kernel) rfl rfl rfl (by decide +kernel)
set_option maxRecDepth 65536 in
theorem w_c1 : (Jvm.Cond.code ({ cls := "com/example/forecache/forecache/TableRules$Type", name := "isWhole", desc := "()Z" } : Jvm.MethodName) prog_109_method_5_code (1 : Nat) (Option.some Jvm.ClassFile.FieldType.boolean)).before args0 about1 = true := code_word (m := ⟨6, 0⟩) (meth := k6m0) (c := k6c0) (by decide +kernel) rfl rfl rfl (by decide +kernel)
set_option maxRecDepth 65536 in
theorem w_c2 : (Jvm.Cond.code ({ cls := "com/example/forecache/forecache/TableRules$Type", name := "isText", desc := "()Z" } : Jvm.MethodName) prog_109_method_6_code (1 : Nat) (Option.some Jvm.ClassFile.FieldType.boolean)).before args0 about1 = true := code_word (m := ⟨6, 1⟩) (meth := k6m1) (c := k6c1) (by decide +kernel) rfl rfl rfl (by decide +kernel)
def codes1 : List Jvm.Cond := [Jvm.Cond.code x code maxLocals ret, Jvm.Cond.code ({ cls := "com/example/forecache/forecache/TableRules$Type", name := "isWhole", desc := "()Z" } : Jvm.MethodName) prog_109_method_5_code (1 : Nat) (Option.some Jvm.ClassFile.FieldType.boolean), Jvm.Cond.code ({ cls := "com/example/forecache/forecache/TableRules$Type", name := "isText", desc := "()Z" } : Jvm.MethodName) prog_109_method_6_code (1 : Nat) (Option.some Jvm.ClassFile.FieldType.boolean)]
set_option maxRecDepth 65536 in
theorem codes_eq : words1.filter isCode = codes1 := rfl
theorem w_codes : ∀ c ∈ words1.filter isCode, c.before args0 about1 = true := by
  rw [codes_eq]
  intro c hc
  simp only [codes1, List.mem_cons, List.not_mem_nil, or_false] at hc
  rcases hc with rfl | rfl | rfl
  · exact w_c0
  · exact w_c1
  · exact w_c2
set_option maxRecDepth 65536 in
theorem w_t1 : (words1.take 24).all (fun c => isCode c || c.before args0 about1) = true := by decide +kernel
set_option maxRecDepth 65536 in
theorem w_t2 : (words1.drop 24).all (fun c => isCode c || c.before args0 about1) = true := by decide +kernel
theorem w_tables : (allAtoms (Jvm.Cond.code x code maxLocals ret :: tables_1)).before args0 about1 = true := by
  rw [allAtoms_all]
  show words1.all (fun c => c.before args0 about1) = true
  refine all_split ?_ w_codes
  rw [← List.take_append_drop 24 words1, List.all_append, w_t1, w_t2]
  rfl
set_option maxRecDepth 65536 in
theorem w_case : (Jvm.Cond.and given_1 narrow_1).before args0 about1 = true := by decide +kernel
theorem w_applies : (headSpec (Jvm.Cond.code x code maxLocals ret :: tables_1) room_1).applies x e0.platform about1 = true :=
  (Spec.applies_iff w_frames).mpr ⟨w_running, w_runnable, w_alone, w_named, w_hears, w_ripe, w_room, w_tables⟩
theorem atStart : AtStart classFile x code maxLocals ret World_1 tables_1 room_1 Calls_1 rest_1 Pre_1 launch0 p0 e0 about1 theMethod args0 below0 :=
  ⟨lists_1, trivial, launch0.admits_env _ _ _, launch0.least_env, fairChoices_fair.cas, fairChoices_fair.clock, w_frames, w_args, w_heap, w_applies, trivial, trivial, w_case⟩
end start1
theorem witness_1 : WitnessClaimed_1 := ⟨start1.p0, start1.e0, start1.about1, start1.theMethod, start1.args0, start1.below0, start1.atStart⟩
end Jvm.Pilot.@@N@@
