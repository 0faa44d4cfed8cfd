import JvmDerived
import JvmDerived.Pilot.@@N@@Statement
import JvmDerived.Pilot.@@N@@Code
set_option linter.unusedVariables false
set_option linter.unusedSimpArgs false
namespace Jvm.Pilot.@@N@@
open Jvm Jvm.ClassFile Sem Op Lib Jvm.Free Jvm.Stand Jvm.LawKit Jvm.RoadKit Bundle Jvm.Pilot.@@N@@.Jvm.D
/-! own kit: the walk in continuation form: 'Go': from this point the body comes to its end with what Q says -/
section OwnGo
variable {p : Program} {l : Launch} {e : Env} {R : Room} {s : State} {m : MethodId} {args : Array Value} {below : List Frame} {meth : Method} {c : Code} {T : State} {locs : List Loc} {cells slots : Nat} {Z : State} {a0 : Array Value} {h : Heap} {Q : Option Value → Heap → List Loc → Prop} {C S : Nat} {End : Outcome → State → List Loc → Prop}
def Go (p : Program) (e : Env) (below : List Frame) (End : Outcome → State → List Loc → Prop) (Q : Option Value → Heap → List Loc → Prop) (T : State) (f : JFrame) : Prop :=
  ∃ s₂ o, Steps p.tables e below (T.setTop f) s₂ ∧ s₂.status = .running ∧ Ended s₂ below o ∧ ∃ v L, o = .returned v ∧ Q v s₂.heap L ∧ End o s₂ L
/-- the end of a walk that leaves the table of strings alone, and of one that may not -/
def EndN (s : State) (C S : Nat) : Outcome → State → List Loc → Prop := fun o t L => FrameEnd s o t L C S
def EndW (s : State) (C S : Nat) : Outcome → State → List Loc → Prop := fun o t L => ReturnedEndW s o t L C S
def OwnP (val : Option Value) (h0 : Heap) (n0 : Nat) (v : Option Value) (h : Heap) (L : List Loc) : Prop := v = val ∧ Fr n0 L ∧ h = h0
def OwnR (val : Option Value) (n0 : Nat) (v : Option Value) (h : Heap) (L : List Loc) : Prop := v = val ∧ Fr n0 L
abbrev OwnMet (l : Launch) (Z : State) (y : MethodName) (bytes : ByteArray) (maxL : Nat) (ret : Option FieldType) (ws : List Jvm.Cond) (rm : Room) (as' : Array Value) (h0 : Heap) (Q : Option Value → Heap → List Loc → Prop) : Prop :=
  MetFree l y (head1 (Jvm.Cond.code y bytes maxL ret :: ws) rm) (fun a U => a = as' ∧ Z.Warmed39 U.vm ∧ U.heap = h0) (fun _ _ _ _ _ => True) (fun _ U o U' => ∃ v L, o = .returned v ∧ Q v U'.heap L ∧ FrameEnd U o U' L rm.cells rm.slots)
theorem own_body {y : MethodName} {bytes : ByteArray} {maxL : Nat} {ret : Option FieldType} {ws : List Jvm.Cond} {rm : Room} {as' : Array Value} {h0 : Heap} (hpl : plainFor y = true)
    (k : ∀ (p : Program) (e : Env) (s : State) (m : MethodId) (below : List Frame) (meth : Method) (c : Code) (s₁ : State), Stand p l e rm s m as' below meth c s₁ [] 0 0 → p.tables.exec = Jvm.exec → c.code = bytes → c.maxLocals = maxL → meth.sig.returnType = ret → meth.locks = false → s.vm.findClass y.cls = some m.cls → meth.name = y.name → Z.Warmed39 s.vm → s₁.heap = h0 → s.heap = h0 → Go p e below (EndN s rm.cells rm.slots) Q s₁ (entryFrame m as' maxL)) :
    OwnMet l Z y bytes maxL ret ws rm as' h0 Q := by
  refine MetFree.of_bodySF hpl hisR ?_
  intro p e s m args below meth c s₁ Bd hml0 hP hK
  obtain ⟨rfl, hZ, hh⟩ := hP
  exact k p e s m below meth c s₁ (Stand.of_body Bd) Bd.exec Bd.bytes hml0 Bd.returns Bd.notSynchronized (findClass_of_methodNamed Bd.named) (name_of_methodNamed Bd.named Bd.method).1 hZ (by rw [← hh, Bd.state]; rfl) hh
theorem own_go {T' : State} {f f' : JFrame} (k : ∀ t, Steps p.tables e below (T'.setTop f') t → Steps p.tables e below (T.setTop f) t) (G : Go p e below End Q T' f') : Go p e below End Q T f := by
  obtain ⟨s₂, o, hs, r⟩ := G
  exact ⟨s₂, o, k _ hs, r⟩
theorem own_entry {f : JFrame} {f' : JFrame} (q : f = f') (G : Go p e below End Q T f') : Go p e below End Q T f := q ▸ G
/-- the method can be left here -/
def Leaves (e : Env) (below : List Frame) (m : MethodId) (meth : Method) (T : State) (locs : List Loc) (End : Outcome → State → List Loc → Prop) : Prop :=
  ∀ v : Option Value, (meth.sig.returnType = none → v = none) → ∃ fs, (∀ (f : JFrame) (acts : List Action), f.method = m → f.locked = none → f.entered = [] → (doReturn e (T.setTop f) acts v).1 = T.setFrames fs) ∧ (T.setFrames fs).status = .running ∧ Ended (T.setFrames fs) below (.returned v) ∧ End (.returned v) (T.setFrames fs) locs
theorem own_lvN (X : Stand p l e R s m args below meth c T locs cells slots) (hlk : meth.locks = false) (hC : cells ≤ C) (hS : slots ≤ S) : Leaves e below m meth T locs (EndN s C S) := fun v hv => by
  obtain ⟨fs, hr, hrun, hended, hW, hsame⟩ := X.leave hv hlk
  exact ⟨fs, hr, hrun, hended, ⟨_, rfl⟩, hW, hsame.mono hC hS⟩
theorem own_leave {v : Option Value} (LV : Leaves e below m meth T locs End) (hv : meth.sig.returnType = none → v = none) {f : JFrame}
    (st : ∀ fs, (∀ (f : JFrame) (acts : List Action), f.method = m → f.locked = none → f.entered = [] → (doReturn e (T.setTop f) acts v).1 = T.setFrames fs) → Steps p.tables e below (T.setTop f) (T.setFrames fs))
    (hQ : Q v T.heap locs) : Go p e below End Q T f := by
  obtain ⟨fs, hr, hrun, hended, hE⟩ := LV v hv
  exact ⟨_, _, st fs hr, hrun, hended, _, _, rfl, hQ, hE⟩
theorem own_retN (X : Stand p l e R s m args below meth c T locs cells slots) (hx : p.tables.exec = Jvm.exec) (LV : Leaves e below m meth T locs End) {pc : Nat} {Ls : Array Slot} {z : Int32} {t : FieldType} {rest : List Value} (hret : meth.sig.returnType = some t) (ht : t = .boolean ∨ t = .byte ∨ t = .char ∨ t = .short)
    (hd : decode c.code pc = .ok (.ireturn, 1)) (hQ : Q (some (.int (nar t z))) T.heap locs) : Go p e below End Q T (mkF m pc Ls (.int z :: rest)) :=
  own_leave LV (fun h => by rw [hret] at h; cases h) (fun fs hr => retN X hx hret ht hd hr) hQ
theorem own_retO (X : Stand p l e R s m args below meth c T locs cells slots) (hx : p.tables.exec = Jvm.exec) (LV : Leaves e below m meth T locs End) {pc : Nat} {Ls : Array Slot} {w : Value} {t : FieldType} {i : Instr} {rest : List Value} (hret : meth.sig.returnType = some t) (hn : narrow t w = w)
    (hi : (i = .ireturn ∧ (t = .int ∨ t = .boolean ∨ t = .byte ∨ t = .char ∨ t = .short) ∧ ∃ z, w = .int z) ∨ (i = .lreturn ∧ t = .long ∧ ∃ z, w = .long z) ∨ (i = .dreturn ∧ t = .double ∧ ∃ z, w = .double z) ∨ (i = .freturn ∧ t = .float ∧ ∃ z, w = .float z) ∨ (i = .areturn ∧ t.isReference = true ∧ w.isRef = true))
    (hd : decode c.code pc = .ok (i, 1)) (hQ : Q (some w) T.heap locs) : Go p e below End Q T (mkF m pc Ls (w :: rest)) :=
  own_leave LV (fun h => by rw [hret] at h; cases h) (fun fs hr => retOut X hx hret hn hi hd hr) hQ
theorem own_retI (X : Stand p l e R s m args below meth c T locs cells slots) (hx : p.tables.exec = Jvm.exec) (LV : Leaves e below m meth T locs End) {pc : Nat} {Ls : Array Slot} {z : Int32} {rest : List Value} (hret : meth.sig.returnType = some .int)
    (hd : decode c.code pc = .ok (.ireturn, 1)) (hQ : Q (some (.int z)) T.heap locs) : Go p e below End Q T (mkF m pc Ls (.int z :: rest)) :=
  own_retO X hx LV hret rfl (Or.inl ⟨rfl, Or.inl rfl, z, rfl⟩) hd hQ
theorem own_retL (X : Stand p l e R s m args below meth c T locs cells slots) (hx : p.tables.exec = Jvm.exec) (LV : Leaves e below m meth T locs End) {pc : Nat} {Ls : Array Slot} {z : Int64} {rest : List Value} (hret : meth.sig.returnType = some .long)
    (hd : decode c.code pc = .ok (.lreturn, 1)) (hQ : Q (some (.long z)) T.heap locs) : Go p e below End Q T (mkF m pc Ls (.long z :: rest)) :=
  own_retO X hx LV hret rfl (Or.inr (Or.inl ⟨rfl, rfl, z, rfl⟩)) hd hQ
theorem own_retA (X : Stand p l e R s m args below meth c T locs cells slots) (hx : p.tables.exec = Jvm.exec) (LV : Leaves e below m meth T locs End) {pc : Nat} {Ls : Array Slot} {w : Value} {t : FieldType} {rest : List Value} (hret : meth.sig.returnType = some t) (ht : t.isReference = true) (hw : w.isRef = true)
    (hd : decode c.code pc = .ok (.areturn, 1)) (hQ : Q (some w) T.heap locs) : Go p e below End Q T (mkF m pc Ls (w :: rest)) :=
  own_retO X hx LV hret (by cases t <;> first | (cases w <;> first | rfl | cases hw) | cases ht) (Or.inr (Or.inr (Or.inr (Or.inr ⟨rfl, ht, hw⟩)))) hd hQ
theorem own_retV (X : Stand p l e R s m args below meth c T locs cells slots) (hx : p.tables.exec = Jvm.exec) (LV : Leaves e below m meth T locs End) {pc : Nat} {Ls : Array Slot} (hret : meth.sig.returnType = none)
    (hd : decode c.code pc = .ok (.return_, 1)) (hQ : Q none T.heap locs) : Go p e below End Q T (mkF m pc Ls []) :=
  own_leave LV (fun _ => rfl) (fun fs hr => X.returnOut hx hret hd hr) hQ
/-- a branch: taken where P -/
theorem own_icmpP (P : Prop) [Decidable P] (X : Stand p l e R s m args below meth c T locs cells slots) (hx : p.tables.exec = Jvm.exec) {cd : ClassFile.Cond} {x y : Int32} {rest : List Value} {o : Int} {pc pc' : Nat} {Ls : Array Slot} (hd : decode c.code pc = .ok (.if_icmp cd o, 3)) (hP : if_icmp.holds cd x y = decide P) (ho : 0 ≤ (pc : Int) + o) (hp : ((pc : Int) + o).toNat = pc')
    (h1 : P → Go p e below End Q T (mkF m pc' Ls rest)) (h2 : ¬ P → Go p e below End Q T (mkF m (pc + 3) Ls rest)) : Go p e below End Q T (mkF m pc Ls (.int y :: .int x :: rest)) := by
  by_cases q : P
  · exact own_go (fun t k => XS.icmpYes X.here hx rfl (pc0 := pc) (pc' := pc') rfl hd rfl (by rw [hP]; exact decide_eq_true q) ho hp k) (h1 q)
  · exact own_go (fun t k => XS.icmpNo X.here hx rfl hd rfl (by rw [hP]; exact decide_eq_false q) k) (h2 q)
/-- a branch: taken where not P -/
theorem own_icmpM (P : Prop) [Decidable P] (X : Stand p l e R s m args below meth c T locs cells slots) (hx : p.tables.exec = Jvm.exec) {cd : ClassFile.Cond} {x y : Int32} {rest : List Value} {o : Int} {pc pc' : Nat} {Ls : Array Slot} (hd : decode c.code pc = .ok (.if_icmp cd o, 3)) (hP : if_icmp.holds cd x y = !decide P) (ho : 0 ≤ (pc : Int) + o) (hp : ((pc : Int) + o).toNat = pc')
    (h1 : ¬ P → Go p e below End Q T (mkF m pc' Ls rest)) (h2 : P → Go p e below End Q T (mkF m (pc + 3) Ls rest)) : Go p e below End Q T (mkF m pc Ls (.int y :: .int x :: rest)) := by
  by_cases q : P
  · exact own_go (fun t k => XS.icmpNo X.here hx rfl hd rfl (by rw [hP]; simp [q]) k) (h2 q)
  · exact own_go (fun t k => XS.icmpYes X.here hx rfl (pc0 := pc) (pc' := pc') rfl hd rfl (by rw [hP]; simp [q]) ho hp k) (h1 q)
theorem own_ifP (P : Prop) [Decidable P] (X : Stand p l e R s m args below meth c T locs cells slots) (hx : p.tables.exec = Jvm.exec) {cd : ClassFile.Cond} {x : Int32} {rest : List Value} {o : Int} {pc pc' : Nat} {Ls : Array Slot} (hd : decode c.code pc = .ok (.ifCond cd o, 3)) (hP : if_icmp.holds cd x 0 = decide P) (ho : 0 ≤ (pc : Int) + o) (hp : ((pc : Int) + o).toNat = pc')
    (h1 : P → Go p e below End Q T (mkF m pc' Ls rest)) (h2 : ¬ P → Go p e below End Q T (mkF m (pc + 3) Ls rest)) : Go p e below End Q T (mkF m pc Ls (.int x :: rest)) := by
  by_cases q : P
  · exact own_go (fun t k => XS.ifYes X.here hx rfl (pc0 := pc) (pc' := pc') rfl hd rfl (by rw [if0, hP]; exact decide_eq_true q) ho hp k) (h1 q)
  · exact own_go (fun t k => XS.ifNo X.here hx rfl hd rfl (by rw [if0, hP]; exact decide_eq_false q) k) (h2 q)
theorem own_ifM (P : Prop) [Decidable P] (X : Stand p l e R s m args below meth c T locs cells slots) (hx : p.tables.exec = Jvm.exec) {cd : ClassFile.Cond} {x : Int32} {rest : List Value} {o : Int} {pc pc' : Nat} {Ls : Array Slot} (hd : decode c.code pc = .ok (.ifCond cd o, 3)) (hP : if_icmp.holds cd x 0 = !decide P) (ho : 0 ≤ (pc : Int) + o) (hp : ((pc : Int) + o).toNat = pc')
    (h1 : ¬ P → Go p e below End Q T (mkF m pc' Ls rest)) (h2 : P → Go p e below End Q T (mkF m (pc + 3) Ls rest)) : Go p e below End Q T (mkF m pc Ls (.int x :: rest)) := by
  by_cases q : P
  · exact own_go (fun t k => XS.ifNo X.here hx rfl hd rfl (by rw [if0, hP]; simp [q]) k) (h2 q)
  · exact own_go (fun t k => XS.ifYes X.here hx rfl (pc0 := pc) (pc' := pc') rfl hd rfl (by rw [if0, hP]; simp [q]) ho hp k) (h1 q)
theorem own_eq (x y : Int32) : if_icmp.holds .eq x y = decide (x = y) := by by_cases q : x = y <;> simp [if_icmp.holds, q]
theorem own_ne (x y : Int32) : if_icmp.holds .ne x y = !decide (x = y) := by by_cases q : x = y <;> simp [if_icmp.holds, q]
theorem own_lt (x y : Int32) : if_icmp.holds .lt x y = decide (x < y) := by by_cases q : x < y <;> simp [if_icmp.holds, q]
theorem own_ge (x y : Int32) : if_icmp.holds .ge x y = !decide (x < y) := by
  by_cases q : x < y
  · rw [(tlt q).2.1]; simp [q]
  · rw [(flt q).2.1]; simp [q]
theorem own_gt (x y : Int32) : if_icmp.holds .gt x y = decide (y < x) := by
  by_cases q : y < x
  · rw [(tlt q).2.2.1]; simp [q]
  · rw [(flt q).2.2.1]; simp [q]
theorem own_le (x y : Int32) : if_icmp.holds .le x y = !decide (y < x) := by
  by_cases q : y < x
  · rw [(tlt q).2.2.2]; simp [q]
  · rw [(flt q).2.2.2]; simp [q]
theorem own_acmp (P : Prop) [Decidable P] (X : Stand p l e R s m args below meth c T locs cells slots) (hx : p.tables.exec = Jvm.exec) {cd : ACond} {x y : Value} {rest : List Value} {o : Int} {pc : Nat} {Ls : Array Slot} (h1 : x.isRef = true) (h2 : y.isRef = true) (hP : (x = y) ↔ P) (hd : decode c.code pc = .ok (.if_acmp cd o, 3)) (ho : 0 ≤ (pc : Int) + o) {pcE pcN : Nat}
    (hE : pcE = if acV cd true = true then ((pc : Int) + o).toNat else pc + 3) (hN : pcN = if acV cd false = true then ((pc : Int) + o).toNat else pc + 3)
    (k1 : P → Go p e below End Q T (mkF m pcE Ls rest)) (k2 : ¬ P → Go p e below End Q T (mkF m pcN Ls rest)) : Go p e below End Q T (mkF m pc Ls (y :: x :: rest)) := by
  by_cases q : P
  · exact own_go (fun t k => Jvm.RoadKit.acmp (g := mkF m pc Ls (y :: x :: rest)) X hx rfl h1 h2 (pc0 := pc) (pc' := pcE) (same := true) rfl hd rfl (decide_eq_true (hP.mpr q)) ho hE k) (k1 q)
  · exact own_go (fun t k => Jvm.RoadKit.acmp (g := mkF m pc Ls (y :: x :: rest)) X hx rfl h1 h2 (pc0 := pc) (pc' := pcN) (same := false) rfl hd rfl (decide_eq_false fun z => q (hP.mp z)) ho hN k) (k2 q)
theorem own_ref (a b : Addr) : (Value.ref a = Value.ref b) ↔ (a = b) := ⟨Value.ref.inj, congrArg Value.ref⟩
theorem own_callS (X : Stand p l e R s m args below meth c T locs cells slots) (hx : p.tables.exec = Jvm.exec) (hZ : Z.Warmed39 s.vm) {own : String} {index : Nat} {y : MethodName} {bytes : ByteArray} {maxL : Nat} {ret : Option FieldType} {rm : Room} {as' : Array Value} {Qc : Option Value → Heap → List Loc → Prop}
    (hown : s.vm.findClass own = some m.cls) (wl : (Cond.methodLink own index y).before a0 Z = true) (wst : (Cond.static y).before a0 Z = true) (wi : (Cond.initialized y.cls).before a0 Z = true) (wc : (Cond.code y bytes maxL ret).before a0 Z = true)
    (hy : y.cls ≠ "java/lang/invoke/MethodHandle" ∧ y.cls ≠ "java/lang/invoke/VarHandle")
    (hM : MetFree l y (head1 [Cond.code y bytes maxL ret] rm) (fun a U => a = as' ∧ Z.Warmed39 U.vm ∧ U.heap = h) (fun _ _ _ _ _ => True) (fun _ U o U' => ∃ v L, o = .returned v ∧ Qc v U'.heap L ∧ FrameEnd U o U' L rm.cells rm.slots))
    (eT : T.heap = h) {pc : Nat} {Ls : Array Slot} (hsize : Ls.size = c.maxLocals) {argsL rest stk : List Value} (hst : stk = argsL.reverse ++ rest) (ha : argsL.toArray = as') (hlen : ∀ sig, parseMethodDescriptor y.desc = some sig → argsL.length = sig.parameters.length) {W : Nat} (hW : (rest.map fun v => v.category).sum ≤ W)
    (hf : rm.frames + 1 ≤ R.frames) (hl : W + (maxL + 11) + rm.locals ≤ R.locals) (hd : decode c.code pc = .ok (.invokestatic index, 3)) (hc : cells + rm.cells ≤ R.cells) (hs : slots + rm.slots ≤ R.slots)
    (k : ∀ (v : Option Value) (T' : State) (L : List Loc), Stand p l e R s m args below meth c T' (locs ++ L) (cells + rm.cells) (slots + rm.slots) → Qc v T'.heap L → Go p e below End Q T' (mkF m (pc + 3) Ls (v.toList ++ rest))) :
    Go p e below End Q T (mkF m pc Ls stk) := by
  subst hst
  obtain ⟨v, _, ⟨T', L', k', n'⟩, -, X', ⟨Lc, hQ, l1, y1, z1⟩, st⟩ := Jvm.LawKit.callS X hx (y := y) hown (mvT hZ wl) (mvT hZ wst) (mvT hZ wi) (mvT hZ wc) hy (backOf (W := W) hM hZ wc wi hf hl) (g := mkF m pc Ls (argsL.reverse ++ rest)) rfl hsize (argsL := argsL) (rest := rest) hlen rfl (by show 2 * 0 + _ ≤ _; rw [Nat.mul_zero, Nat.zero_add]; exact hW) hd (fun _ _ => ⟨ha, eT, hc, hs⟩)
  dsimp only [Pt.U, Pt.locs, Pt.cells, Pt.slots] at X' l1 y1 z1 st hQ
  subst l1 y1 z1
  exact own_go (fun t q => st _ q) (k v T' Lc X' hQ)
theorem own_callV (X : Stand p l e R s m args below meth c T locs cells slots) (hx : p.tables.exec = Jvm.exec) (hZ : Z.Warmed39 s.vm) {own Cn : String} {index : Nat} {y : MethodName} {bytes : ByteArray} {maxL : Nat} {ret : Option FieldType} {rm : Room} {as' : Array Value} {Qc : Option Value → Heap → List Loc → Prop}
    (hown : s.vm.findClass own = some m.cls) (wl : (Cond.methodLink own index y).before a0 Z = true) (wd : (Cond.declares y).before a0 Z = true) (wsel : (Cond.selects Cn y y).before a0 Z = true) (win : (Cond.instanceMethod y).before a0 Z = true) (wc : (Cond.code y bytes maxL ret).before a0 Z = true) (wi : (Cond.initialized y.cls).before a0 Z = true)
    (hy : y.cls ≠ "java/lang/invoke/MethodHandle" ∧ y.cls ≠ "java/lang/invoke/VarHandle")
    (hM : MetFree l y (head1 [Cond.code y bytes maxL ret] rm) (fun a U => a = as' ∧ Z.Warmed39 U.vm ∧ U.heap = h) (fun _ _ _ _ _ => True) (fun _ U o U' => ∃ v L, o = .returned v ∧ Qc v U'.heap L ∧ FrameEnd U o U' L rm.cells rm.slots))
    (eT : T.heap = h) {b : Addr} (E : Exa Z h b Cn) {pc : Nat} {Ls : Array Slot} (hsize : Ls.size = c.maxLocals) {argsL rest stk : List Value} (hst : stk = argsL.reverse ++ .ref b :: rest) (ha : (.ref b :: argsL).toArray = as') (hlen : ∀ sig, parseMethodDescriptor y.desc = some sig → argsL.length = sig.parameters.length) {W : Nat} (hW : (rest.map fun v => v.category).sum ≤ W)
    (hf : rm.frames + 1 ≤ R.frames) (hl : W + (maxL + 11) + rm.locals ≤ R.locals) (hd : decode c.code pc = .ok (.invokevirtual index, 3)) (hc : cells + rm.cells ≤ R.cells) (hs : slots + rm.slots ≤ R.slots)
    (k : ∀ (v : Option Value) (T' : State) (L : List Loc), Stand p l e R s m args below meth c T' (locs ++ L) (cells + rm.cells) (slots + rm.slots) → Qc v T'.heap L → Go p e below End Q T' (mkF m (pc + 3) Ls (v.toList ++ rest))) :
    Go p e below End Q T (mkF m pc Ls stk) := by
  subst hst
  obtain ⟨cq, kq, qa, qb, qc⟩ := isOf hZ eT E
  obtain ⟨v, _, ⟨T', L', k', n'⟩, -, X', ⟨Lc, hQ, l1, y1, z1⟩, st⟩ := X.virtualBack hx (y := y) (z := y) hown (mvT hZ wl) (mvT hZ wd) (notFace_of_selects (args := #[]) (mvT hZ wsel)) (mvT hZ wsel) (mvT hZ win) hy (backOf (W := W) hM hZ wc wi hf hl) qa qc (g := mkF m pc Ls (argsL.reverse ++ .ref b :: rest)) rfl hsize (Steps.refl _) (argsL := argsL) (rest := rest) hlen rfl (by show 2 * 0 + _ ≤ _; rw [Nat.mul_zero, Nat.zero_add]; exact hW) hd (fun _ _ => ⟨ha, eT, hc, hs⟩)
  dsimp only [Pt.U, Pt.locs, Pt.cells, Pt.slots] at X' l1 y1 z1 st hQ
  subst l1 y1 z1
  exact own_go (fun t q => st.trans q) (k v T' Lc X' hQ)
theorem own_callU (X : Stand p l e R s m args below meth c T locs cells slots) (hx : p.tables.exec = Jvm.exec) (hZ : Z.Warmed39 s.vm) {own Cn owner : String} {index : Nat} {y z : MethodName} {bytes : ByteArray} {maxL : Nat} {ret : Option FieldType} {rm : Room} {as' : Array Value} {Qc : Option Value → Heap → List Loc → Prop}
    (hown : s.vm.findClass own = some m.cls) (wl : (Cond.methodLink own index y).before a0 Z = true) (wsm : (Cond.sameMethod y.cls owner y.name y.desc).before a0 Z = true) (wd : (Cond.declares ⟨owner, y.name, y.desc⟩).before a0 Z = true) (wsel : (Cond.selects Cn y z).before a0 Z = true) (win : (Cond.instanceMethod z).before a0 Z = true) (wc : (Cond.code z bytes maxL ret).before a0 Z = true) (wi : (Cond.initialized z.cls).before a0 Z = true)
    (hy : owner ≠ "java/lang/invoke/MethodHandle" ∧ owner ≠ "java/lang/invoke/VarHandle")
    (hM : MetFree l z (head1 [Cond.code z bytes maxL ret] rm) (fun a U => a = as' ∧ Z.Warmed39 U.vm ∧ U.heap = h) (fun _ _ _ _ _ => True) (fun _ U o U' => ∃ v L, o = .returned v ∧ Qc v U'.heap L ∧ FrameEnd U o U' L rm.cells rm.slots))
    (eT : T.heap = h) {b : Addr} (E : Exa Z h b Cn) {pc : Nat} {Ls : Array Slot} (hsize : Ls.size = c.maxLocals) {argsL rest stk : List Value} (hst : stk = argsL.reverse ++ .ref b :: rest) (ha : (.ref b :: argsL).toArray = as') (hlen : ∀ sig, parseMethodDescriptor y.desc = some sig → argsL.length = sig.parameters.length) {W : Nat} (hW : (rest.map fun v => v.category).sum ≤ W)
    (hf : rm.frames + 1 ≤ R.frames) (hl : W + (maxL + 11) + rm.locals ≤ R.locals) (hd : decode c.code pc = .ok (.invokevirtual index, 3)) (hc : cells + rm.cells ≤ R.cells) (hs : slots + rm.slots ≤ R.slots)
    (k : ∀ (v : Option Value) (T' : State) (L : List Loc), Stand p l e R s m args below meth c T' (locs ++ L) (cells + rm.cells) (slots + rm.slots) → Qc v T'.heap L → Go p e below End Q T' (mkF m (pc + 3) Ls (v.toList ++ rest))) :
    Go p e below End Q T (mkF m pc Ls stk) := by
  subst hst
  obtain ⟨cq, kq, qa, qb, qc⟩ := isOf hZ eT E
  obtain ⟨v, _, ⟨T', L', k', n'⟩, -, X', ⟨Lc, hQ, l1, y1, z1⟩, st⟩ := X.virtualBackUp hx (x := y) (y := z) hown (mvT hZ wl) (mvT hZ wsm) (mvT hZ wd) hy (mvT hZ wsel) (mvT hZ win) (backOf (W := W) hM hZ wc wi hf hl) qa qc (g := mkF m pc Ls (argsL.reverse ++ .ref b :: rest)) rfl hsize (Steps.refl _) (argsL := argsL) (rest := rest) hlen rfl (by show 2 * 0 + _ ≤ _; rw [Nat.mul_zero, Nat.zero_add]; exact hW) hd (fun _ _ => ⟨ha, eT, hc, hs⟩)
  dsimp only [Pt.U, Pt.locs, Pt.cells, Pt.slots] at X' l1 y1 z1 st hQ
  subst l1 y1 z1
  exact own_go (fun t q => st.trans q) (k v T' Lc X' hQ)
theorem own_callI (X : Stand p l e R s m args below meth c T locs cells slots) (hx : p.tables.exec = Jvm.exec) (hZ : Z.Warmed39 s.vm) {own : String} {index : Nat} {y : MethodName} {bytes : ByteArray} {maxL : Nat} {rm : Room} {as' : Array Value} {Qc : Option Value → Heap → List Loc → Prop} (hy1 : y.name = "<init>")
    (hown : s.vm.findClass own = some m.cls) (wl : (Cond.methodLink own index y).before a0 Z = true) (win : (Cond.instanceMethod y).before a0 Z = true) (wc : (Cond.code y bytes maxL none).before a0 Z = true) (wi : (Cond.initialized y.cls).before a0 Z = true)
    (hy : y.cls ≠ "java/lang/invoke/MethodHandle" ∧ y.cls ≠ "java/lang/invoke/VarHandle")
    (hM : MetFree l y (head1 [Cond.code y bytes maxL none] rm) (fun a U => a = as' ∧ Z.Warmed39 U.vm ∧ U.heap = h) (fun _ _ _ _ _ => True) (fun _ U o U' => ∃ v L, o = .returned v ∧ Qc v U'.heap L ∧ FrameEnd U o U' L rm.cells rm.slots))
    (eT : T.heap = h) {b : Addr} {pc : Nat} {Ls : Array Slot} (hsize : Ls.size = c.maxLocals) {argsL rest stk : List Value} (hst : stk = argsL.reverse ++ .ref b :: rest) (ha : (.ref b :: argsL).toArray = as') (hlen : ∀ sig, parseMethodDescriptor y.desc = some sig → argsL.length = sig.parameters.length) {W : Nat} (hW : (rest.map fun v => v.category).sum ≤ W)
    (hf : rm.frames + 1 ≤ R.frames) (hl : W + (maxL + 11) + rm.locals ≤ R.locals) (hd : decode c.code pc = .ok (.invokespecial index, 3)) (hc : cells + rm.cells ≤ R.cells) (hs : slots + rm.slots ≤ R.slots)
    (k : ∀ (v : Option Value) (T' : State) (L : List Loc), Stand p l e R s m args below meth c T' (locs ++ L) (cells + rm.cells) (slots + rm.slots) → Qc v T'.heap L → Go p e below End Q T' (mkF m (pc + 3) Ls (v.toList ++ rest))) :
    Go p e below End Q T (mkF m pc Ls stk) := by
  subst hst
  obtain ⟨v, _, ⟨T', L', k', n'⟩, -, X', ⟨Lc, hQ, l1, y1, z1⟩, st⟩ := X.specialBack hx (y := y) hy1 hown (mvT hZ wl) (mvT hZ win) (mvT hZ wc) hy (backOf (W := W) hM hZ wc wi hf hl) (g := mkF m pc Ls (argsL.reverse ++ .ref b :: rest)) rfl hsize (Steps.refl _) (a := b) (argsL := argsL) (rest := rest) hlen rfl (by show 2 * 0 + _ ≤ _; rw [Nat.mul_zero, Nat.zero_add]; exact hW) hd (fun _ _ => ⟨ha, eT, hc, hs⟩)
  dsimp only [Pt.U, Pt.locs, Pt.cells, Pt.slots] at X' l1 y1 z1 st hQ
  subst l1 y1 z1
  exact own_go (fun t q => st.trans q) (k v T' Lc X' hQ)
theorem own_eqI {ar : Array Value} {t : Term} {k : Int32} (hx : (Cond.eq t (.int k)).value ar Z none Z [] = some true) : t.eval ar Z none [] Z = some (.int k) := by
  obtain ⟨x, y, e1, e2, k1, -⟩ := cmp_v (Or.inl hx)
  have e3 : y = .int k := Option.some.inj (e2.symm.trans (Term.int_eval k))
  subst e3
  cases x with
  | int z =>
    have := gotT (Cond.eq_ints e1 e2) hx
    subst this
    exact e1
  | _ => simp [Kin, Value.isRef] at k1
theorem own_fld {ar : Array Value} {t : Term} {w : Addr} {O n d : String} {k : Int32} (ev : t.eval ar Z none [] Z = some (.ref w)) (hx : (Cond.eq (.field t O n d) (.int k)).value ar Z none Z [] = some true) : Fld Z Z.heap w O n d (.int k) :=
  Fld.start ((fld_at (C := O) (n := n) (dd := d) ev).symm.trans (own_eqI hx))
theorem own_len {ar : Array Value} {t : Term} {a : Addr} {cl : Cell} {k : Int32} {n : Nat} (ev : t.eval ar Z none [] Z = some (.ref a)) (hat : Z.arrayAt? a = some cl) (hL : (Cond.eq (.length t) (.int k)).value ar Z none Z [] = some true) (hk : k.toInt = n) : cl.slots.size = n ∧ cl.slots.size < 2 ^ 31 := by
  by_cases hs : cl.slots.size < 2 ^ 31
  · have e1 := len_f (t := t) ev hat hs
    have e2 := own_eqI hL
    have e3 : cl.slots.size.toInt32 = k := Value.int.inj (Option.some.inj (e1.symm.trans e2))
    have e4 := len_toInt hs
    rw [e3, hk] at e4
    exact ⟨by omega, hs⟩
  · have e2 := own_eqI hL
    simp [Term.eval, ev, hat, hs] at e2
theorem own_ne_fld {a b : Addr} {Cn n d : String} {v w : Value} (F : Fld Z h a Cn n d v) (G : Fld Z h b Cn n d w) (hn : v ≠ w) : ¬ a = b := by
  rintro rfl
  obtain ⟨c1, cf1, k1, i1, f1, h1, h2, -, -, -, -, h7⟩ := F
  obtain ⟨c2, cf2, k2, i2, f2, g1, g2, -, -, -, -, g7⟩ := G
  cases h1.symm.trans g1
  cases h2.symm.trans g2
  cases h7.symm.trans g7
  exact hn rfl
theorem own_sta_keep {h h' : Heap} {ws : List Addr} {Cn n d : String} {v : Value} (F : Sta Z h Cn n d v) (K : Keep h h' ws) (hws : ∀ a ∈ ws, ∃ C', Exa Z h a C') : Sta Z h' Cn n d v := by
  obtain ⟨cf, i, k, f, st, cell, h1, h2, h3, h4, h5, h6, h7⟩ := F
  refine ⟨cf, i, k, f, st, cell, h1, h2, h3, h4, K.2.1 st cell h5 (fun q => ?_), h6, h7⟩
  obtain ⟨C', cell', k', e1, -, -, e4, -⟩ := hws st q
  cases h5.symm.trans e1
  rw [h6] at e4; cases e4
/-- the class named c has no superclass named K (itself neither) -/
def OwnNsub (Z : State) (c K : String) : Prop := ∀ (ci ki : ClassId), Z.vm.findClass c = some ci → Z.vm.findClass K = some ki → ∀ fuel, Z.vm.isSubclassAux fuel ci ki = false
theorem own_id_ne {c K : String} {ci ki : ClassId} (h1 : Z.vm.findClass c = some ci) (h2 : Z.vm.findClass K = some ki) (hn : c ≠ K) : (ci == ki) = false := by
  rw [beq_eq_false_iff_ne]
  rintro rfl
  obtain ⟨k1, a1, b1⟩ := Vm.findClass_spec h1
  obtain ⟨k2, a2, b2⟩ := Vm.findClass_spec h2
  cases a1.symm.trans a2
  exact hn (b1.symm.trans b2)
theorem own_nsub_root {c K : String} (w : (Cond.noSuperclass c).before a0 Z = true) (hn : c ≠ K) : OwnNsub Z c K := by
  intro ci ki h1 h2 fuel
  cases fuel with
  | zero => rfl
  | succ n =>
    obtain ⟨k1, a1, b1⟩ := Vm.findClass_spec h1
    have hs := Cond.noSuperclass_root w ci k1 h1 a1
    simp [Vm.isSubclassAux, own_id_ne h1 h2 hn, a1, hs]
theorem own_nsub_up {c d K : String} (w : (Cond.superclass c d).before a0 Z = true) (hn : c ≠ K) (N : OwnNsub Z d K) : OwnNsub Z c K := by
  intro ci ki h1 h2 fuel
  cases fuel with
  | zero => rfl
  | succ n =>
    obtain ⟨pi, k, kp, g1, g2, g3, g4, -⟩ := Cond.superclass_spec h1 w
    simp [Vm.isSubclassAux, own_id_ne h1 h2 hn, g2, g4, N pi ki g1 h2 n]
theorem own_nins {a : Addr} {c d K : String} {kk : Nat} (E : Exa Z h a c) (wi : (Cond.instantiable K kk).before a0 Z = true) (wsup : (Cond.superclass c d).before a0 Z = true) (hn : c ≠ K) (N : OwnNsub Z c K) : Ins Z h a K false := by
  obtain ⟨cell, k, h1, h2, h3, h4, -⟩ := E
  obtain ⟨ki, kt, i1, i2, i3, i4, -⟩ := Cond.instantiable_spec wi
  obtain ⟨pi, k', kp, g1, g2, g3, g4, g5, -⟩ := Cond.superclass_spec h2 wsup
  cases h3.symm.trans g2
  refine ⟨cell, ki, h1, i1, ?_⟩
  have hif : kt.isInterface = false := by simp only [Bool.or_eq_false_iff] at i4; exact i4.1
  simp [h4, Vm.assignable, Vm.assignableAux, own_id_ne h2 i1 hn, h3, i2, g5, i3, hif, Vm.isSubclass, N cell.cls ki h2 i1]
end OwnGo
theorem own_int {i j : Int32} (h : i.toInt = j.toInt) : i = j := Int32.toInt_inj.mp h
theorem own_and3 (x : Int32) : (x &&& (3 : Int32)) = 0 ∨ (x &&& (3 : Int32)) = 1 ∨ (x &&& (3 : Int32)) = 2 ∨ (x &&& (3 : Int32)) = 3 := by
  have h := c_and x (3 : Int32) (by decide)
  have h3 : (3 : Int32).toInt = 3 := by decide
  rw [h3] at h
  generalize (x &&& (3 : Int32)) = i at h
  have q : i.toInt = 0 ∨ i.toInt = 1 ∨ i.toInt = 2 ∨ i.toInt = 3 := by omega
  rcases q with q | q | q | q
  · exact Or.inl (own_int q)
  · exact Or.inr (Or.inl (own_int q))
  · exact Or.inr (Or.inr (Or.inl (own_int q)))
  · exact Or.inr (Or.inr (Or.inr (own_int q)))
theorem own_and1 (x : Int32) : (x &&& (1 : Int32)) = 0 ∨ (x &&& (1 : Int32)) = 1 := by
  have h := c_and x (1 : Int32) (by decide)
  have h3 : (1 : Int32).toInt = 1 := by decide
  rw [h3] at h
  generalize (x &&& (1 : Int32)) = i at h
  have q : i.toInt = 0 ∨ i.toInt = 1 := by omega
  rcases q with q | q
  · exact Or.inl (own_int q)
  · exact Or.inr (own_int q)
theorem own_rem6 (x : Int32) : ((x &&& (2147483647 : Int32)) % (6 : Int32)) = 0 ∨ ((x &&& (2147483647 : Int32)) % (6 : Int32)) = 1 ∨ ((x &&& (2147483647 : Int32)) % (6 : Int32)) = 2 ∨ ((x &&& (2147483647 : Int32)) % (6 : Int32)) = 3 ∨ ((x &&& (2147483647 : Int32)) % (6 : Int32)) = 4 ∨ ((x &&& (2147483647 : Int32)) % (6 : Int32)) = 5 := by
  have h := (c_and x (2147483647 : Int32) (by decide)).1
  generalize (x &&& (2147483647 : Int32)) = y at h
  have h2 := (c_irem y (6 : Int32) 6 (by decide)).1 h
  generalize (y % (6 : Int32)) = i at h2
  have q : i.toInt = 0 ∨ i.toInt = 1 ∨ i.toInt = 2 ∨ i.toInt = 3 ∨ i.toInt = 4 ∨ i.toInt = 5 := by omega
  rcases q with q | q | q | q | q | q
  · exact Or.inl (own_int q)
  · exact Or.inr (Or.inl (own_int q))
  · exact Or.inr (Or.inr (Or.inl (own_int q)))
  · exact Or.inr (Or.inr (Or.inr (Or.inl (own_int q))))
  · exact Or.inr (Or.inr (Or.inr (Or.inr (Or.inl (own_int q)))))
  · exact Or.inr (Or.inr (Or.inr (Or.inr (Or.inr (own_int q)))))
theorem own_rem5 (x : Int32) : ((x &&& (2147483647 : Int32)) % (5 : Int32)) = 0 ∨ ((x &&& (2147483647 : Int32)) % (5 : Int32)) = 1 ∨ ((x &&& (2147483647 : Int32)) % (5 : Int32)) = 2 ∨ ((x &&& (2147483647 : Int32)) % (5 : Int32)) = 3 ∨ ((x &&& (2147483647 : Int32)) % (5 : Int32)) = 4 := by
  have h := (c_and x (2147483647 : Int32) (by decide)).1
  generalize (x &&& (2147483647 : Int32)) = y at h
  have h2 := (c_irem y (5 : Int32) 5 (by decide)).1 h
  generalize (y % (5 : Int32)) = i at h2
  have q : i.toInt = 0 ∨ i.toInt = 1 ∨ i.toInt = 2 ∨ i.toInt = 3 ∨ i.toInt = 4 := by omega
  rcases q with q | q | q | q | q
  · exact Or.inl (own_int q)
  · exact Or.inr (Or.inl (own_int q))
  · exact Or.inr (Or.inr (Or.inl (own_int q)))
  · exact Or.inr (Or.inr (Or.inr (Or.inl (own_int q))))
  · exact Or.inr (Or.inr (Or.inr (Or.inr (own_int q))))
theorem own_and2 (x : Int32) : (x &&& (2 : Int32)) = 0 ∨ (x &&& (2 : Int32)) = 2 := by
  have h : (x &&& (2 : Int32)) = (x &&& (3 : Int32)) &&& (2 : Int32) := by rw [Int32.and_assoc]; rfl
  rw [h]
  rcases own_and3 x with q | q | q | q <;> rw [q] <;> decide

theorem d_prog_33_method_5_0 : Jvm.ClassFile.decode prog_33_method_5_code 0 = .ok (.aload_n 0, 1) := by decide +kernel
theorem d_prog_33_method_5_1 : Jvm.ClassFile.decode prog_33_method_5_code 1 = .ok (.getstatic 3, 3) := by decide +kernel
theorem d_prog_33_method_5_4 : Jvm.ClassFile.decode prog_33_method_5_code 4 = .ok (.if_acmp .eq 14, 3) := by decide +kernel
theorem d_prog_33_method_5_18 : Jvm.ClassFile.decode prog_33_method_5_code 18 = .ok (.iconst 0, 1) := by decide +kernel
theorem d_prog_33_method_5_19 : Jvm.ClassFile.decode prog_33_method_5_code 19 = .ok (.ireturn, 1) := by decide +kernel
theorem d_prog_33_method_5_7 : Jvm.ClassFile.decode prog_33_method_5_code 7 = .ok (.aload_n 0, 1) := by decide +kernel
theorem d_prog_33_method_5_8 : Jvm.ClassFile.decode prog_33_method_5_code 8 = .ok (.getstatic 7, 3) := by decide +kernel
theorem d_prog_33_method_5_11 : Jvm.ClassFile.decode prog_33_method_5_code 11 = .ok (.if_acmp .eq 7, 3) := by decide +kernel
theorem d_prog_33_method_5_14 : Jvm.ClassFile.decode prog_33_method_5_code 14 = .ok (.iconst 1, 1) := by decide +kernel
theorem d_prog_33_method_5_15 : Jvm.ClassFile.decode prog_33_method_5_code 15 = .ok (.goto 4, 3) := by decide +kernel
def own_f_rm1 (a1 : Addr) (w_EQUAL : Addr) (w_NOT_EQUAL : Addr) : Int32 := (if a1 = w_EQUAL then (0 : Int32) else (if a1 = w_NOT_EQUAL then (0 : Int32) else (1 : Int32)))
theorem own_pn0 : plainName "com/example/tallyfold/tallyfold/expr/ComparisonOperator" = true := by first | (simp [plainName, overriddenIn]; done) | decide +kernel
theorem own_ef_rm1 (m : MethodId) (x0 : Addr) : entryFrame m #[(.ref x0)] 1 = mkF m 0 #[.val (.ref x0)] [] := by first | (simp [entryFrame, mkF, argsToLocals, Value.category]; done) | rfl
set_option maxRecDepth 65536 in
set_option maxHeartbeats 40000000 in
theorem rm1 (l : Launch) (Z : State) (a0 : Array Value) (hw : ∀ d ∈ tables_1, d.before a0 Z = true) (ws : List Jvm.Cond) (a1 : Addr) (w_EQUAL : Addr) (w_NOT_EQUAL : Addr) (w_LESS : Addr) (w_LESS_OR_EQUAL : Addr) (w_GREATER : Addr) (w_GREATER_OR_EQUAL : Addr) (r : Int32) (h0 : Heap) (n0 : Nat) (hn0 : n0 ≤ h0.size) (S_EQUAL : Sta Z h0 "com/example/tallyfold/tallyfold/expr/ComparisonOperator" "EQUAL" "Lcom/example/tallyfold/tallyfold/expr/ComparisonOperator;" (.ref w_EQUAL)) (S_NOT_EQUAL : Sta Z h0 "com/example/tallyfold/tallyfold/expr/ComparisonOperator" "NOT_EQUAL" "Lcom/example/tallyfold/tallyfold/expr/ComparisonOperator;" (.ref w_NOT_EQUAL)) (S_LESS : Sta Z h0 "com/example/tallyfold/tallyfold/expr/ComparisonOperator" "LESS" "Lcom/example/tallyfold/tallyfold/expr/ComparisonOperator;" (.ref w_LESS)) (S_LESS_OR_EQUAL : Sta Z h0 "com/example/tallyfold/tallyfold/expr/ComparisonOperator" "LESS_OR_EQUAL" "Lcom/example/tallyfold/tallyfold/expr/ComparisonOperator;" (.ref w_LESS_OR_EQUAL)) (S_GREATER : Sta Z h0 "com/example/tallyfold/tallyfold/expr/ComparisonOperator" "GREATER" "Lcom/example/tallyfold/tallyfold/expr/ComparisonOperator;" (.ref w_GREATER)) (S_GREATER_OR_EQUAL : Sta Z h0 "com/example/tallyfold/tallyfold/expr/ComparisonOperator" "GREATER_OR_EQUAL" "Lcom/example/tallyfold/tallyfold/expr/ComparisonOperator;" (.ref w_GREATER_OR_EQUAL)) (hr : own_f_rm1 a1 w_EQUAL w_NOT_EQUAL = r) :
    OwnMet l Z (⟨"com/example/tallyfold/tallyfold/expr/ComparisonOperator", "ordersValues", "()Z"⟩ : MethodName) prog_33_method_5_code 1 (some .boolean) ws ({ frames := 0, cells := 0, slots := 0, locals := 0 } : Room) #[(.ref a1)] h0 (OwnP (some (.int r)) h0 n0) := by
  refine own_body (plainFor_of_name own_pn0) ?_
  intro p e s m below meth c s₁ X0 hx hby hml hret hlk hown0 hnm hZ e0 hs0
  have hown : s.vm.findClass "com/example/tallyfold/tallyfold/expr/ComparisonOperator" = some m.cls := hown0
  have N0 := Fr.nil n0
  refine own_entry (own_ef_rm1 m a1) ?_
  show Go _ _ _ _ _ s₁ (mkF m 0 #[.val (.ref a1)] [])
  refine own_go (fun t k => XS.aloadN X0.here hx rfl (hb hby d_prog_33_method_5_0) rfl rfl k) ?_
  show Go _ _ _ _ _ s₁ (mkF m 1 #[.val (.ref a1)] [(.ref a1)])
  obtain ⟨T5, X5, e5, st5⟩ := getS2 X0 hx hZ hown (host := "") (Or.inl (hw _ (List.mem_of_getElem? (i := 22) rfl))) Via.refl e0 S_EQUAL (g := (mkF m 1 #[.val (.ref a1)] [(.ref a1)])) rfl (hb hby d_prog_33_method_5_1)
  refine own_go (fun t k => st5 t k) ?_
  show Go _ _ _ _ _ T5 (mkF m 4 #[.val (.ref a1)] [(.ref w_EQUAL), (.ref a1)])
  refine own_acmp (a1 = w_EQUAL) X5 hx rfl rfl (own_ref _ _) (hb hby d_prog_33_method_5_4) (by decide) (pcE := 18) (pcN := 7) (by decide) (by decide) (fun ha6 => ?_) (fun ha6 => ?_)
  · skip
    show Go _ _ _ _ _ T5 (mkF m 18 #[.val (.ref a1)] [])
    refine own_go (fun t k => XS.iconst X5.here hx rfl (hb hby d_prog_33_method_5_18) k) ?_
    show Go _ _ _ _ _ T5 (mkF m 19 #[.val (.ref a1)] [(.int (0 : Int32))])
    refine own_retN X5 hx (own_lvN X5 hlk (by decide) (by decide)) (t := .boolean) hret (by simp) (hb hby d_prog_33_method_5_19) ?_
    exact ⟨(by rw [← hr, own_f_rm1, if_pos ha6]; try rfl), N0, e5⟩
  · skip
    show Go _ _ _ _ _ T5 (mkF m 7 #[.val (.ref a1)] [])
    refine own_go (fun t k => XS.aloadN X5.here hx rfl (hb hby d_prog_33_method_5_7) rfl rfl k) ?_
    show Go _ _ _ _ _ T5 (mkF m 8 #[.val (.ref a1)] [(.ref a1)])
    obtain ⟨T7, X7, e7, st7⟩ := getS2 X5 hx hZ hown (host := "") (Or.inl (hw _ (List.mem_of_getElem? (i := 37) rfl))) Via.refl e5 S_NOT_EQUAL (g := (mkF m 8 #[.val (.ref a1)] [(.ref a1)])) rfl (hb hby d_prog_33_method_5_8)
    refine own_go (fun t k => st7 t k) ?_
    show Go _ _ _ _ _ T7 (mkF m 11 #[.val (.ref a1)] [(.ref w_NOT_EQUAL), (.ref a1)])
    refine own_acmp (a1 = w_NOT_EQUAL) X7 hx rfl rfl (own_ref _ _) (hb hby d_prog_33_method_5_11) (by decide) (pcE := 18) (pcN := 14) (by decide) (by decide) (fun ha8 => ?_) (fun ha8 => ?_)
    · skip
      show Go _ _ _ _ _ T7 (mkF m 18 #[.val (.ref a1)] [])
      refine own_go (fun t k => XS.iconst X7.here hx rfl (hb hby d_prog_33_method_5_18) k) ?_
      show Go _ _ _ _ _ T7 (mkF m 19 #[.val (.ref a1)] [(.int (0 : Int32))])
      refine own_retN X7 hx (own_lvN X7 hlk (by decide) (by decide)) (t := .boolean) hret (by simp) (hb hby d_prog_33_method_5_19) ?_
      exact ⟨(by rw [← hr, own_f_rm1, if_neg ha6, if_pos ha8]; try rfl), N0, e7⟩
    · skip
      show Go _ _ _ _ _ T7 (mkF m 14 #[.val (.ref a1)] [])
      refine own_go (fun t k => XS.iconst X7.here hx rfl (hb hby d_prog_33_method_5_14) k) ?_
      show Go _ _ _ _ _ T7 (mkF m 15 #[.val (.ref a1)] [(.int (1 : Int32))])
      refine own_go (fun t k => XS.goto X7.here hx rfl (pc0 := 15) (pc' := 19) rfl (hb hby d_prog_33_method_5_15) (by decide) (by decide) k) ?_
      show Go _ _ _ _ _ T7 (mkF m 19 #[.val (.ref a1)] [(.int (1 : Int32))])
      refine own_retN X7 hx (own_lvN X7 hlk (by decide) (by decide)) (t := .boolean) hret (by simp) (hb hby d_prog_33_method_5_19) ?_
      exact ⟨(by rw [← hr, own_f_rm1, if_neg ha6, if_neg ha8]; try rfl), N0, e7⟩
theorem d_jdk_37_method_2_0 : Jvm.ClassFile.decode jdk_37_method_2_code 0 = .ok (.aload_n 0, 1) := by decide +kernel
theorem d_jdk_37_method_2_1 : Jvm.ClassFile.decode jdk_37_method_2_code 1 = .ok (.getfield 7, 3) := by decide +kernel
theorem d_jdk_37_method_2_4 : Jvm.ClassFile.decode jdk_37_method_2_code 4 = .ok (.ireturn, 1) := by decide +kernel
def own_f_rm3 (k1 : Int32) : Int32 := k1
theorem own_pn1 : plainName "java/lang/Enum" = true := by first | (simp [plainName, overriddenIn]; done) | decide +kernel
theorem own_ef_rm3 (m : MethodId) (x0 : Addr) : entryFrame m #[(.ref x0)] 1 = mkF m 0 #[.val (.ref x0)] [] := by first | (simp [entryFrame, mkF, argsToLocals, Value.category]; done) | rfl
set_option maxRecDepth 65536 in
set_option maxHeartbeats 40000000 in
theorem rm3 (l : Launch) (Z : State) (a0 : Array Value) (hw : ∀ d ∈ tables_1, d.before a0 Z = true) (ws : List Jvm.Cond) (a1 : Addr) (k1 : Int32) (r : Int32) (h0 : Heap) (n0 : Nat) (hn0 : n0 ≤ h0.size) (F : Fld Z h0 a1 "java/lang/Enum" "ordinal" "I" (.int k1)) (hr : own_f_rm3 k1 = r) :
    OwnMet l Z (⟨"java/lang/Enum", "ordinal", "()I"⟩ : MethodName) jdk_37_method_2_code 1 (some .int) ws ({ frames := 0, cells := 0, slots := 0, locals := 0 } : Room) #[(.ref a1)] h0 (OwnP (some (.int r)) h0 n0) := by
  refine own_body (plainFor_of_name own_pn1) ?_
  intro p e s m below meth c s₁ X0 hx hby hml hret hlk hown0 hnm hZ e0 hs0
  have hown : s.vm.findClass "java/lang/Enum" = some m.cls := hown0
  have N0 := Fr.nil n0
  refine own_entry (own_ef_rm3 m a1) ?_
  show Go _ _ _ _ _ s₁ (mkF m 0 #[.val (.ref a1)] [])
  refine own_go (fun t k => XS.aloadN X0.here hx rfl (hb hby d_jdk_37_method_2_0) rfl rfl k) ?_
  show Go _ _ _ _ _ s₁ (mkF m 1 #[.val (.ref a1)] [(.ref a1)])
  obtain ⟨T10, X10, e10, st10⟩ := getF X0 hx hZ hown (host := "") (Or.inl (hw _ (List.mem_of_getElem? (i := 35) rfl))) Via.refl e0 F (g := (mkF m 1 #[.val (.ref a1)] [(.ref a1)])) rfl rfl (hb hby d_jdk_37_method_2_1)
  refine own_go (fun t k => st10 t k) ?_
  show Go _ _ _ _ _ T10 (mkF m 4 #[.val (.ref a1)] [(.int k1)])
  refine own_retI X10 hx (own_lvN X10 hlk (by decide) (by decide)) hret (hb hby d_jdk_37_method_2_4) ?_
  exact ⟨(by rw [← hr, own_f_rm3]; try rfl), N0, e10⟩
theorem d_prog_33_method_6_0 : Jvm.ClassFile.decode prog_33_method_6_code 0 = .ok (.aload_n 0, 1) := by decide +kernel
theorem d_prog_33_method_6_1 : Jvm.ClassFile.decode prog_33_method_6_code 1 = .ok (.invokevirtual 67, 3) := by decide +kernel
theorem own_pd0 : parseMethodDescriptor "()I" = some ⟨[], some .int⟩ := by decide +kernel
theorem d_prog_33_method_6_4 : Jvm.ClassFile.decode prog_33_method_6_code 4 = .ok (.tableswitch 40 0 5 #[50, 62, 74, 86, 98, 110], 40) := by decide +kernel
theorem d_prog_33_method_6_54 : Jvm.ClassFile.decode prog_33_method_6_code 54 = .ok (.iload_n 1, 1) := by decide +kernel
theorem d_prog_33_method_6_55 : Jvm.ClassFile.decode prog_33_method_6_code 55 = .ok (.ifCond .ne 7, 3) := by decide +kernel
theorem d_prog_33_method_6_62 : Jvm.ClassFile.decode prog_33_method_6_code 62 = .ok (.iconst 0, 1) := by decide +kernel
theorem d_prog_33_method_6_63 : Jvm.ClassFile.decode prog_33_method_6_code 63 = .ok (.goto 60, 3) := by decide +kernel
theorem d_prog_33_method_6_123 : Jvm.ClassFile.decode prog_33_method_6_code 123 = .ok (.ireturn, 1) := by decide +kernel
theorem d_prog_33_method_6_58 : Jvm.ClassFile.decode prog_33_method_6_code 58 = .ok (.iconst 1, 1) := by decide +kernel
theorem d_prog_33_method_6_59 : Jvm.ClassFile.decode prog_33_method_6_code 59 = .ok (.goto 64, 3) := by decide +kernel
def own_f_rm_holds_0 (p1 : Int32) : Int32 := (if p1 = (0 : Int32) then (1 : Int32) else (0 : Int32))
theorem own_ef_rm_holds_0 (m : MethodId) (x0 : Addr) (x1 : Int32) : entryFrame m #[(.ref x0), (.int x1)] 2 = mkF m 0 #[.val (.ref x0), .val (.int x1)] [] := by first | (simp [entryFrame, mkF, argsToLocals, Value.category]; done) | rfl
set_option maxRecDepth 65536 in
set_option maxHeartbeats 40000000 in
theorem rm_holds_0 (l : Launch) (Z : State) (a0 : Array Value) (hw : ∀ d ∈ tables_1, d.before a0 Z = true) (ws : List Jvm.Cond) (a1 : Addr) (p1 : Int32) (r : Int32) (h0 : Heap) (n0 : Nat) (hn0 : n0 ≤ h0.size) (E : Exa Z h0 a1 "com/example/tallyfold/tallyfold/expr/ComparisonOperator") (F : Fld Z h0 a1 "java/lang/Enum" "ordinal" "I" (.int (0 : Int32))) (hr : own_f_rm_holds_0 p1 = r) :
    OwnMet l Z (⟨"com/example/tallyfold/tallyfold/expr/ComparisonOperator", "holds", "(I)Z"⟩ : MethodName) prog_33_method_6_code 2 (some .boolean) ws ({ frames := 1, cells := 0, slots := 0, locals := 12 } : Room) #[(.ref a1), (.int p1)] h0 (OwnP (some (.int r)) h0 n0) := by
  refine own_body (plainFor_of_name own_pn0) ?_
  intro p e s m below meth c s₁ X0 hx hby hml hret hlk hown0 hnm hZ e0 hs0
  have hown : s.vm.findClass "com/example/tallyfold/tallyfold/expr/ComparisonOperator" = some m.cls := hown0
  have N0 := Fr.nil n0
  refine own_entry (own_ef_rm_holds_0 m a1 p1) ?_
  show Go _ _ _ _ _ s₁ (mkF m 0 #[.val (.ref a1), .val (.int p1)] [])
  refine own_go (fun t k => XS.aloadN X0.here hx rfl (hb hby d_prog_33_method_6_0) rfl rfl k) ?_
  show Go _ _ _ _ _ s₁ (mkF m 1 #[.val (.ref a1), .val (.int p1)] [(.ref a1)])
  refine own_callU X0 hx hZ (owner := "java/lang/Enum") (y := (⟨"com/example/tallyfold/tallyfold/expr/ComparisonOperator", "ordinal", "()I"⟩ : MethodName)) (z := (⟨"java/lang/Enum", "ordinal", "()I"⟩ : MethodName)) hown (hw _ (List.mem_of_getElem? (i := 28) rfl)) (hw _ (List.mem_of_getElem? (i := 29) rfl)) (hw _ (List.mem_of_getElem? (i := 30) rfl)) (hw _ (List.mem_of_getElem? (i := 32) rfl)) (hw _ (List.mem_of_getElem? (i := 31) rfl)) (hw _ (List.mem_of_getElem? (i := 34) rfl)) (hw _ (List.mem_of_getElem? (i := 33) rfl)) (by decide) (rm3 l Z a0 hw [] a1 (0 : Int32) (0 : Int32) h0 n0 hn0 F (by rw [own_f_rm3]; try first | rfl | decide)) e0 E (by rw [hml]; rfl) (argsL := []) (rest := []) rfl rfl (lenOf own_pd0 rfl) (W := 0) (Nat.le_of_eq rfl) (by decide) (by decide) (hb hby d_prog_33_method_6_1) (by decide) (by decide) ?_
  intro v13 T13 L13 X13 q13
  obtain ⟨rfl, N13q, e13⟩ := q13
  have N13 := Fr.app N0 N13q
  show Go _ _ _ _ _ T13 (mkF m 4 #[.val (.ref a1), .val (.int p1)] [(.int (0 : Int32))])
  refine own_go (fun t k => XS.tswIn X13.here hx rfl (pc0 := 4) (pc' := 54) rfl (hb hby d_prog_33_method_6_4) rfl (by decide) (o := 50) (by decide) (by decide) (by decide) k) ?_
  show Go _ _ _ _ _ T13 (mkF m 54 #[.val (.ref a1), .val (.int p1)] [])
  refine own_go (fun t k => XS.iloadN X13.here hx rfl (hb hby d_prog_33_method_6_54) rfl k) ?_
  show Go _ _ _ _ _ T13 (mkF m 55 #[.val (.ref a1), .val (.int p1)] [(.int p1)])
  refine own_ifM (p1 = (0 : Int32)) X13 hx (hb hby d_prog_33_method_6_55) (own_ne _ _) (by decide) (by decide) (pc' := 62) (fun hc14 => ?_) (fun hc14 => ?_)
  · skip
    show Go _ _ _ _ _ T13 (mkF m 62 #[.val (.ref a1), .val (.int p1)] [])
    refine own_go (fun t k => XS.iconst X13.here hx rfl (hb hby d_prog_33_method_6_62) k) ?_
    show Go _ _ _ _ _ T13 (mkF m 63 #[.val (.ref a1), .val (.int p1)] [(.int (0 : Int32))])
    refine own_go (fun t k => XS.goto X13.here hx rfl (pc0 := 63) (pc' := 123) rfl (hb hby d_prog_33_method_6_63) (by decide) (by decide) k) ?_
    show Go _ _ _ _ _ T13 (mkF m 123 #[.val (.ref a1), .val (.int p1)] [(.int (0 : Int32))])
    refine own_retN X13 hx (own_lvN X13 hlk (by decide) (by decide)) (t := .boolean) hret (by simp) (hb hby d_prog_33_method_6_123) ?_
    exact ⟨(by rw [← hr, own_f_rm_holds_0, if_neg hc14]; try rfl), N13, e13⟩
  · skip
    show Go _ _ _ _ _ T13 (mkF m 58 #[.val (.ref a1), .val (.int p1)] [])
    refine own_go (fun t k => XS.iconst X13.here hx rfl (hb hby d_prog_33_method_6_58) k) ?_
    show Go _ _ _ _ _ T13 (mkF m 59 #[.val (.ref a1), .val (.int p1)] [(.int (1 : Int32))])
    refine own_go (fun t k => XS.goto X13.here hx rfl (pc0 := 59) (pc' := 123) rfl (hb hby d_prog_33_method_6_59) (by decide) (by decide) k) ?_
    show Go _ _ _ _ _ T13 (mkF m 123 #[.val (.ref a1), .val (.int p1)] [(.int (1 : Int32))])
    refine own_retN X13 hx (own_lvN X13 hlk (by decide) (by decide)) (t := .boolean) hret (by simp) (hb hby d_prog_33_method_6_123) ?_
    exact ⟨(by rw [← hr, own_f_rm_holds_0, if_pos hc14]; try rfl), N13, e13⟩
theorem d_prog_33_method_6_66 : Jvm.ClassFile.decode prog_33_method_6_code 66 = .ok (.iload_n 1, 1) := by decide +kernel
theorem d_prog_33_method_6_67 : Jvm.ClassFile.decode prog_33_method_6_code 67 = .ok (.ifCond .eq 7, 3) := by decide +kernel
theorem d_prog_33_method_6_74 : Jvm.ClassFile.decode prog_33_method_6_code 74 = .ok (.iconst 0, 1) := by decide +kernel
theorem d_prog_33_method_6_75 : Jvm.ClassFile.decode prog_33_method_6_code 75 = .ok (.goto 48, 3) := by decide +kernel
theorem d_prog_33_method_6_70 : Jvm.ClassFile.decode prog_33_method_6_code 70 = .ok (.iconst 1, 1) := by decide +kernel
theorem d_prog_33_method_6_71 : Jvm.ClassFile.decode prog_33_method_6_code 71 = .ok (.goto 52, 3) := by decide +kernel
def own_f_rm_holds_1 (p1 : Int32) : Int32 := (if p1 = (0 : Int32) then (0 : Int32) else (1 : Int32))
theorem own_ef_rm_holds_1 (m : MethodId) (x0 : Addr) (x1 : Int32) : entryFrame m #[(.ref x0), (.int x1)] 2 = mkF m 0 #[.val (.ref x0), .val (.int x1)] [] := by first | (simp [entryFrame, mkF, argsToLocals, Value.category]; done) | rfl
set_option maxRecDepth 65536 in
set_option maxHeartbeats 40000000 in
theorem rm_holds_1 (l : Launch) (Z : State) (a0 : Array Value) (hw : ∀ d ∈ tables_1, d.before a0 Z = true) (ws : List Jvm.Cond) (a1 : Addr) (p1 : Int32) (r : Int32) (h0 : Heap) (n0 : Nat) (hn0 : n0 ≤ h0.size) (E : Exa Z h0 a1 "com/example/tallyfold/tallyfold/expr/ComparisonOperator") (F : Fld Z h0 a1 "java/lang/Enum" "ordinal" "I" (.int (1 : Int32))) (hr : own_f_rm_holds_1 p1 = r) :
    OwnMet l Z (⟨"com/example/tallyfold/tallyfold/expr/ComparisonOperator", "holds", "(I)Z"⟩ : MethodName) prog_33_method_6_code 2 (some .boolean) ws ({ frames := 1, cells := 0, slots := 0, locals := 12 } : Room) #[(.ref a1), (.int p1)] h0 (OwnP (some (.int r)) h0 n0) := by
  refine own_body (plainFor_of_name own_pn0) ?_
  intro p e s m below meth c s₁ X0 hx hby hml hret hlk hown0 hnm hZ e0 hs0
  have hown : s.vm.findClass "com/example/tallyfold/tallyfold/expr/ComparisonOperator" = some m.cls := hown0
  have N0 := Fr.nil n0
  refine own_entry (own_ef_rm_holds_1 m a1 p1) ?_
  show Go _ _ _ _ _ s₁ (mkF m 0 #[.val (.ref a1), .val (.int p1)] [])
  refine own_go (fun t k => XS.aloadN X0.here hx rfl (hb hby d_prog_33_method_6_0) rfl rfl k) ?_
  show Go _ _ _ _ _ s₁ (mkF m 1 #[.val (.ref a1), .val (.int p1)] [(.ref a1)])
  refine own_callU X0 hx hZ (owner := "java/lang/Enum") (y := (⟨"com/example/tallyfold/tallyfold/expr/ComparisonOperator", "ordinal", "()I"⟩ : MethodName)) (z := (⟨"java/lang/Enum", "ordinal", "()I"⟩ : MethodName)) hown (hw _ (List.mem_of_getElem? (i := 28) rfl)) (hw _ (List.mem_of_getElem? (i := 29) rfl)) (hw _ (List.mem_of_getElem? (i := 30) rfl)) (hw _ (List.mem_of_getElem? (i := 32) rfl)) (hw _ (List.mem_of_getElem? (i := 31) rfl)) (hw _ (List.mem_of_getElem? (i := 34) rfl)) (hw _ (List.mem_of_getElem? (i := 33) rfl)) (by decide) (rm3 l Z a0 hw [] a1 (1 : Int32) (1 : Int32) h0 n0 hn0 F (by rw [own_f_rm3]; try first | rfl | decide)) e0 E (by rw [hml]; rfl) (argsL := []) (rest := []) rfl rfl (lenOf own_pd0 rfl) (W := 0) (Nat.le_of_eq rfl) (by decide) (by decide) (hb hby d_prog_33_method_6_1) (by decide) (by decide) ?_
  intro v17 T17 L17 X17 q17
  obtain ⟨rfl, N17q, e17⟩ := q17
  have N17 := Fr.app N0 N17q
  show Go _ _ _ _ _ T17 (mkF m 4 #[.val (.ref a1), .val (.int p1)] [(.int (1 : Int32))])
  refine own_go (fun t k => XS.tswIn X17.here hx rfl (pc0 := 4) (pc' := 66) rfl (hb hby d_prog_33_method_6_4) rfl (by decide) (o := 62) (by decide) (by decide) (by decide) k) ?_
  show Go _ _ _ _ _ T17 (mkF m 66 #[.val (.ref a1), .val (.int p1)] [])
  refine own_go (fun t k => XS.iloadN X17.here hx rfl (hb hby d_prog_33_method_6_66) rfl k) ?_
  show Go _ _ _ _ _ T17 (mkF m 67 #[.val (.ref a1), .val (.int p1)] [(.int p1)])
  refine own_ifP (p1 = (0 : Int32)) X17 hx (hb hby d_prog_33_method_6_67) (own_eq _ _) (by decide) (by decide) (pc' := 74) (fun hc18 => ?_) (fun hc18 => ?_)
  · skip
    show Go _ _ _ _ _ T17 (mkF m 74 #[.val (.ref a1), .val (.int p1)] [])
    refine own_go (fun t k => XS.iconst X17.here hx rfl (hb hby d_prog_33_method_6_74) k) ?_
    show Go _ _ _ _ _ T17 (mkF m 75 #[.val (.ref a1), .val (.int p1)] [(.int (0 : Int32))])
    refine own_go (fun t k => XS.goto X17.here hx rfl (pc0 := 75) (pc' := 123) rfl (hb hby d_prog_33_method_6_75) (by decide) (by decide) k) ?_
    show Go _ _ _ _ _ T17 (mkF m 123 #[.val (.ref a1), .val (.int p1)] [(.int (0 : Int32))])
    refine own_retN X17 hx (own_lvN X17 hlk (by decide) (by decide)) (t := .boolean) hret (by simp) (hb hby d_prog_33_method_6_123) ?_
    exact ⟨(by rw [← hr, own_f_rm_holds_1, if_pos hc18]; try rfl), N17, e17⟩
  · skip
    show Go _ _ _ _ _ T17 (mkF m 70 #[.val (.ref a1), .val (.int p1)] [])
    refine own_go (fun t k => XS.iconst X17.here hx rfl (hb hby d_prog_33_method_6_70) k) ?_
    show Go _ _ _ _ _ T17 (mkF m 71 #[.val (.ref a1), .val (.int p1)] [(.int (1 : Int32))])
    refine own_go (fun t k => XS.goto X17.here hx rfl (pc0 := 71) (pc' := 123) rfl (hb hby d_prog_33_method_6_71) (by decide) (by decide) k) ?_
    show Go _ _ _ _ _ T17 (mkF m 123 #[.val (.ref a1), .val (.int p1)] [(.int (1 : Int32))])
    refine own_retN X17 hx (own_lvN X17 hlk (by decide) (by decide)) (t := .boolean) hret (by simp) (hb hby d_prog_33_method_6_123) ?_
    exact ⟨(by rw [← hr, own_f_rm_holds_1, if_neg hc18]; try rfl), N17, e17⟩
theorem d_prog_33_method_6_78 : Jvm.ClassFile.decode prog_33_method_6_code 78 = .ok (.iload_n 1, 1) := by decide +kernel
theorem d_prog_33_method_6_79 : Jvm.ClassFile.decode prog_33_method_6_code 79 = .ok (.ifCond .ge 7, 3) := by decide +kernel
theorem d_prog_33_method_6_86 : Jvm.ClassFile.decode prog_33_method_6_code 86 = .ok (.iconst 0, 1) := by decide +kernel
theorem d_prog_33_method_6_87 : Jvm.ClassFile.decode prog_33_method_6_code 87 = .ok (.goto 36, 3) := by decide +kernel
theorem d_prog_33_method_6_82 : Jvm.ClassFile.decode prog_33_method_6_code 82 = .ok (.iconst 1, 1) := by decide +kernel
theorem d_prog_33_method_6_83 : Jvm.ClassFile.decode prog_33_method_6_code 83 = .ok (.goto 40, 3) := by decide +kernel
def own_f_rm_holds_2 (p1 : Int32) : Int32 := (if p1 < (0 : Int32) then (1 : Int32) else (0 : Int32))
theorem own_ef_rm_holds_2 (m : MethodId) (x0 : Addr) (x1 : Int32) : entryFrame m #[(.ref x0), (.int x1)] 2 = mkF m 0 #[.val (.ref x0), .val (.int x1)] [] := by first | (simp [entryFrame, mkF, argsToLocals, Value.category]; done) | rfl
set_option maxRecDepth 65536 in
set_option maxHeartbeats 40000000 in
theorem rm_holds_2 (l : Launch) (Z : State) (a0 : Array Value) (hw : ∀ d ∈ tables_1, d.before a0 Z = true) (ws : List Jvm.Cond) (a1 : Addr) (p1 : Int32) (r : Int32) (h0 : Heap) (n0 : Nat) (hn0 : n0 ≤ h0.size) (E : Exa Z h0 a1 "com/example/tallyfold/tallyfold/expr/ComparisonOperator") (F : Fld Z h0 a1 "java/lang/Enum" "ordinal" "I" (.int (2 : Int32))) (hr : own_f_rm_holds_2 p1 = r) :
    OwnMet l Z (⟨"com/example/tallyfold/tallyfold/expr/ComparisonOperator", "holds", "(I)Z"⟩ : MethodName) prog_33_method_6_code 2 (some .boolean) ws ({ frames := 1, cells := 0, slots := 0, locals := 12 } : Room) #[(.ref a1), (.int p1)] h0 (OwnP (some (.int r)) h0 n0) := by
  refine own_body (plainFor_of_name own_pn0) ?_
  intro p e s m below meth c s₁ X0 hx hby hml hret hlk hown0 hnm hZ e0 hs0
  have hown : s.vm.findClass "com/example/tallyfold/tallyfold/expr/ComparisonOperator" = some m.cls := hown0
  have N0 := Fr.nil n0
  refine own_entry (own_ef_rm_holds_2 m a1 p1) ?_
  show Go _ _ _ _ _ s₁ (mkF m 0 #[.val (.ref a1), .val (.int p1)] [])
  refine own_go (fun t k => XS.aloadN X0.here hx rfl (hb hby d_prog_33_method_6_0) rfl rfl k) ?_
  show Go _ _ _ _ _ s₁ (mkF m 1 #[.val (.ref a1), .val (.int p1)] [(.ref a1)])
  refine own_callU X0 hx hZ (owner := "java/lang/Enum") (y := (⟨"com/example/tallyfold/tallyfold/expr/ComparisonOperator", "ordinal", "()I"⟩ : MethodName)) (z := (⟨"java/lang/Enum", "ordinal", "()I"⟩ : MethodName)) hown (hw _ (List.mem_of_getElem? (i := 28) rfl)) (hw _ (List.mem_of_getElem? (i := 29) rfl)) (hw _ (List.mem_of_getElem? (i := 30) rfl)) (hw _ (List.mem_of_getElem? (i := 32) rfl)) (hw _ (List.mem_of_getElem? (i := 31) rfl)) (hw _ (List.mem_of_getElem? (i := 34) rfl)) (hw _ (List.mem_of_getElem? (i := 33) rfl)) (by decide) (rm3 l Z a0 hw [] a1 (2 : Int32) (2 : Int32) h0 n0 hn0 F (by rw [own_f_rm3]; try first | rfl | decide)) e0 E (by rw [hml]; rfl) (argsL := []) (rest := []) rfl rfl (lenOf own_pd0 rfl) (W := 0) (Nat.le_of_eq rfl) (by decide) (by decide) (hb hby d_prog_33_method_6_1) (by decide) (by decide) ?_
  intro v21 T21 L21 X21 q21
  obtain ⟨rfl, N21q, e21⟩ := q21
  have N21 := Fr.app N0 N21q
  show Go _ _ _ _ _ T21 (mkF m 4 #[.val (.ref a1), .val (.int p1)] [(.int (2 : Int32))])
  refine own_go (fun t k => XS.tswIn X21.here hx rfl (pc0 := 4) (pc' := 78) rfl (hb hby d_prog_33_method_6_4) rfl (by decide) (o := 74) (by decide) (by decide) (by decide) k) ?_
  show Go _ _ _ _ _ T21 (mkF m 78 #[.val (.ref a1), .val (.int p1)] [])
  refine own_go (fun t k => XS.iloadN X21.here hx rfl (hb hby d_prog_33_method_6_78) rfl k) ?_
  show Go _ _ _ _ _ T21 (mkF m 79 #[.val (.ref a1), .val (.int p1)] [(.int p1)])
  refine own_ifM (p1 < (0 : Int32)) X21 hx (hb hby d_prog_33_method_6_79) (own_ge _ _) (by decide) (by decide) (pc' := 86) (fun hc22 => ?_) (fun hc22 => ?_)
  · skip
    show Go _ _ _ _ _ T21 (mkF m 86 #[.val (.ref a1), .val (.int p1)] [])
    refine own_go (fun t k => XS.iconst X21.here hx rfl (hb hby d_prog_33_method_6_86) k) ?_
    show Go _ _ _ _ _ T21 (mkF m 87 #[.val (.ref a1), .val (.int p1)] [(.int (0 : Int32))])
    refine own_go (fun t k => XS.goto X21.here hx rfl (pc0 := 87) (pc' := 123) rfl (hb hby d_prog_33_method_6_87) (by decide) (by decide) k) ?_
    show Go _ _ _ _ _ T21 (mkF m 123 #[.val (.ref a1), .val (.int p1)] [(.int (0 : Int32))])
    refine own_retN X21 hx (own_lvN X21 hlk (by decide) (by decide)) (t := .boolean) hret (by simp) (hb hby d_prog_33_method_6_123) ?_
    exact ⟨(by rw [← hr, own_f_rm_holds_2, if_neg hc22]; try rfl), N21, e21⟩
  · skip
    show Go _ _ _ _ _ T21 (mkF m 82 #[.val (.ref a1), .val (.int p1)] [])
    refine own_go (fun t k => XS.iconst X21.here hx rfl (hb hby d_prog_33_method_6_82) k) ?_
    show Go _ _ _ _ _ T21 (mkF m 83 #[.val (.ref a1), .val (.int p1)] [(.int (1 : Int32))])
    refine own_go (fun t k => XS.goto X21.here hx rfl (pc0 := 83) (pc' := 123) rfl (hb hby d_prog_33_method_6_83) (by decide) (by decide) k) ?_
    show Go _ _ _ _ _ T21 (mkF m 123 #[.val (.ref a1), .val (.int p1)] [(.int (1 : Int32))])
    refine own_retN X21 hx (own_lvN X21 hlk (by decide) (by decide)) (t := .boolean) hret (by simp) (hb hby d_prog_33_method_6_123) ?_
    exact ⟨(by rw [← hr, own_f_rm_holds_2, if_pos hc22]; try rfl), N21, e21⟩
theorem d_prog_33_method_6_90 : Jvm.ClassFile.decode prog_33_method_6_code 90 = .ok (.iload_n 1, 1) := by decide +kernel
theorem d_prog_33_method_6_91 : Jvm.ClassFile.decode prog_33_method_6_code 91 = .ok (.ifCond .gt 7, 3) := by decide +kernel
theorem d_prog_33_method_6_98 : Jvm.ClassFile.decode prog_33_method_6_code 98 = .ok (.iconst 0, 1) := by decide +kernel
theorem d_prog_33_method_6_99 : Jvm.ClassFile.decode prog_33_method_6_code 99 = .ok (.goto 24, 3) := by decide +kernel
theorem d_prog_33_method_6_94 : Jvm.ClassFile.decode prog_33_method_6_code 94 = .ok (.iconst 1, 1) := by decide +kernel
theorem d_prog_33_method_6_95 : Jvm.ClassFile.decode prog_33_method_6_code 95 = .ok (.goto 28, 3) := by decide +kernel
def own_f_rm_holds_3 (p1 : Int32) : Int32 := (if (0 : Int32) < p1 then (0 : Int32) else (1 : Int32))
theorem own_ef_rm_holds_3 (m : MethodId) (x0 : Addr) (x1 : Int32) : entryFrame m #[(.ref x0), (.int x1)] 2 = mkF m 0 #[.val (.ref x0), .val (.int x1)] [] := by first | (simp [entryFrame, mkF, argsToLocals, Value.category]; done) | rfl
set_option maxRecDepth 65536 in
set_option maxHeartbeats 40000000 in
theorem rm_holds_3 (l : Launch) (Z : State) (a0 : Array Value) (hw : ∀ d ∈ tables_1, d.before a0 Z = true) (ws : List Jvm.Cond) (a1 : Addr) (p1 : Int32) (r : Int32) (h0 : Heap) (n0 : Nat) (hn0 : n0 ≤ h0.size) (E : Exa Z h0 a1 "com/example/tallyfold/tallyfold/expr/ComparisonOperator") (F : Fld Z h0 a1 "java/lang/Enum" "ordinal" "I" (.int (3 : Int32))) (hr : own_f_rm_holds_3 p1 = r) :
    OwnMet l Z (⟨"com/example/tallyfold/tallyfold/expr/ComparisonOperator", "holds", "(I)Z"⟩ : MethodName) prog_33_method_6_code 2 (some .boolean) ws ({ frames := 1, cells := 0, slots := 0, locals := 12 } : Room) #[(.ref a1), (.int p1)] h0 (OwnP (some (.int r)) h0 n0) := by
  refine own_body (plainFor_of_name own_pn0) ?_
  intro p e s m below meth c s₁ X0 hx hby hml hret hlk hown0 hnm hZ e0 hs0
  have hown : s.vm.findClass "com/example/tallyfold/tallyfold/expr/ComparisonOperator" = some m.cls := hown0
  have N0 := Fr.nil n0
  refine own_entry (own_ef_rm_holds_3 m a1 p1) ?_
  show Go _ _ _ _ _ s₁ (mkF m 0 #[.val (.ref a1), .val (.int p1)] [])
  refine own_go (fun t k => XS.aloadN X0.here hx rfl (hb hby d_prog_33_method_6_0) rfl rfl k) ?_
  show Go _ _ _ _ _ s₁ (mkF m 1 #[.val (.ref a1), .val (.int p1)] [(.ref a1)])
  refine own_callU X0 hx hZ (owner := "java/lang/Enum") (y := (⟨"com/example/tallyfold/tallyfold/expr/ComparisonOperator", "ordinal", "()I"⟩ : MethodName)) (z := (⟨"java/lang/Enum", "ordinal", "()I"⟩ : MethodName)) hown (hw _ (List.mem_of_getElem? (i := 28) rfl)) (hw _ (List.mem_of_getElem? (i := 29) rfl)) (hw _ (List.mem_of_getElem? (i := 30) rfl)) (hw _ (List.mem_of_getElem? (i := 32) rfl)) (hw _ (List.mem_of_getElem? (i := 31) rfl)) (hw _ (List.mem_of_getElem? (i := 34) rfl)) (hw _ (List.mem_of_getElem? (i := 33) rfl)) (by decide) (rm3 l Z a0 hw [] a1 (3 : Int32) (3 : Int32) h0 n0 hn0 F (by rw [own_f_rm3]; try first | rfl | decide)) e0 E (by rw [hml]; rfl) (argsL := []) (rest := []) rfl rfl (lenOf own_pd0 rfl) (W := 0) (Nat.le_of_eq rfl) (by decide) (by decide) (hb hby d_prog_33_method_6_1) (by decide) (by decide) ?_
  intro v25 T25 L25 X25 q25
  obtain ⟨rfl, N25q, e25⟩ := q25
  have N25 := Fr.app N0 N25q
  show Go _ _ _ _ _ T25 (mkF m 4 #[.val (.ref a1), .val (.int p1)] [(.int (3 : Int32))])
  refine own_go (fun t k => XS.tswIn X25.here hx rfl (pc0 := 4) (pc' := 90) rfl (hb hby d_prog_33_method_6_4) rfl (by decide) (o := 86) (by decide) (by decide) (by decide) k) ?_
  show Go _ _ _ _ _ T25 (mkF m 90 #[.val (.ref a1), .val (.int p1)] [])
  refine own_go (fun t k => XS.iloadN X25.here hx rfl (hb hby d_prog_33_method_6_90) rfl k) ?_
  show Go _ _ _ _ _ T25 (mkF m 91 #[.val (.ref a1), .val (.int p1)] [(.int p1)])
  refine own_ifP ((0 : Int32) < p1) X25 hx (hb hby d_prog_33_method_6_91) (own_gt _ _) (by decide) (by decide) (pc' := 98) (fun hc26 => ?_) (fun hc26 => ?_)
  · skip
    show Go _ _ _ _ _ T25 (mkF m 98 #[.val (.ref a1), .val (.int p1)] [])
    refine own_go (fun t k => XS.iconst X25.here hx rfl (hb hby d_prog_33_method_6_98) k) ?_
    show Go _ _ _ _ _ T25 (mkF m 99 #[.val (.ref a1), .val (.int p1)] [(.int (0 : Int32))])
    refine own_go (fun t k => XS.goto X25.here hx rfl (pc0 := 99) (pc' := 123) rfl (hb hby d_prog_33_method_6_99) (by decide) (by decide) k) ?_
    show Go _ _ _ _ _ T25 (mkF m 123 #[.val (.ref a1), .val (.int p1)] [(.int (0 : Int32))])
    refine own_retN X25 hx (own_lvN X25 hlk (by decide) (by decide)) (t := .boolean) hret (by simp) (hb hby d_prog_33_method_6_123) ?_
    exact ⟨(by rw [← hr, own_f_rm_holds_3, if_pos hc26]; try rfl), N25, e25⟩
  · skip
    show Go _ _ _ _ _ T25 (mkF m 94 #[.val (.ref a1), .val (.int p1)] [])
    refine own_go (fun t k => XS.iconst X25.here hx rfl (hb hby d_prog_33_method_6_94) k) ?_
    show Go _ _ _ _ _ T25 (mkF m 95 #[.val (.ref a1), .val (.int p1)] [(.int (1 : Int32))])
    refine own_go (fun t k => XS.goto X25.here hx rfl (pc0 := 95) (pc' := 123) rfl (hb hby d_prog_33_method_6_95) (by decide) (by decide) k) ?_
    show Go _ _ _ _ _ T25 (mkF m 123 #[.val (.ref a1), .val (.int p1)] [(.int (1 : Int32))])
    refine own_retN X25 hx (own_lvN X25 hlk (by decide) (by decide)) (t := .boolean) hret (by simp) (hb hby d_prog_33_method_6_123) ?_
    exact ⟨(by rw [← hr, own_f_rm_holds_3, if_neg hc26]; try rfl), N25, e25⟩
theorem d_prog_33_method_6_102 : Jvm.ClassFile.decode prog_33_method_6_code 102 = .ok (.iload_n 1, 1) := by decide +kernel
theorem d_prog_33_method_6_103 : Jvm.ClassFile.decode prog_33_method_6_code 103 = .ok (.ifCond .le 7, 3) := by decide +kernel
theorem d_prog_33_method_6_110 : Jvm.ClassFile.decode prog_33_method_6_code 110 = .ok (.iconst 0, 1) := by decide +kernel
theorem d_prog_33_method_6_111 : Jvm.ClassFile.decode prog_33_method_6_code 111 = .ok (.goto 12, 3) := by decide +kernel
theorem d_prog_33_method_6_106 : Jvm.ClassFile.decode prog_33_method_6_code 106 = .ok (.iconst 1, 1) := by decide +kernel
theorem d_prog_33_method_6_107 : Jvm.ClassFile.decode prog_33_method_6_code 107 = .ok (.goto 16, 3) := by decide +kernel
def own_f_rm_holds_4 (p1 : Int32) : Int32 := (if (0 : Int32) < p1 then (1 : Int32) else (0 : Int32))
theorem own_ef_rm_holds_4 (m : MethodId) (x0 : Addr) (x1 : Int32) : entryFrame m #[(.ref x0), (.int x1)] 2 = mkF m 0 #[.val (.ref x0), .val (.int x1)] [] := by first | (simp [entryFrame, mkF, argsToLocals, Value.category]; done) | rfl
set_option maxRecDepth 65536 in
set_option maxHeartbeats 40000000 in
theorem rm_holds_4 (l : Launch) (Z : State) (a0 : Array Value) (hw : ∀ d ∈ tables_1, d.before a0 Z = true) (ws : List Jvm.Cond) (a1 : Addr) (p1 : Int32) (r : Int32) (h0 : Heap) (n0 : Nat) (hn0 : n0 ≤ h0.size) (E : Exa Z h0 a1 "com/example/tallyfold/tallyfold/expr/ComparisonOperator") (F : Fld Z h0 a1 "java/lang/Enum" "ordinal" "I" (.int (4 : Int32))) (hr : own_f_rm_holds_4 p1 = r) :
    OwnMet l Z (⟨"com/example/tallyfold/tallyfold/expr/ComparisonOperator", "holds", "(I)Z"⟩ : MethodName) prog_33_method_6_code 2 (some .boolean) ws ({ frames := 1, cells := 0, slots := 0, locals := 12 } : Room) #[(.ref a1), (.int p1)] h0 (OwnP (some (.int r)) h0 n0) := by
  refine own_body (plainFor_of_name own_pn0) ?_
  intro p e s m below meth c s₁ X0 hx hby hml hret hlk hown0 hnm hZ e0 hs0
  have hown : s.vm.findClass "com/example/tallyfold/tallyfold/expr/ComparisonOperator" = some m.cls := hown0
  have N0 := Fr.nil n0
  refine own_entry (own_ef_rm_holds_4 m a1 p1) ?_
  show Go _ _ _ _ _ s₁ (mkF m 0 #[.val (.ref a1), .val (.int p1)] [])
  refine own_go (fun t k => XS.aloadN X0.here hx rfl (hb hby d_prog_33_method_6_0) rfl rfl k) ?_
  show Go _ _ _ _ _ s₁ (mkF m 1 #[.val (.ref a1), .val (.int p1)] [(.ref a1)])
  refine own_callU X0 hx hZ (owner := "java/lang/Enum") (y := (⟨"com/example/tallyfold/tallyfold/expr/ComparisonOperator", "ordinal", "()I"⟩ : MethodName)) (z := (⟨"java/lang/Enum", "ordinal", "()I"⟩ : MethodName)) hown (hw _ (List.mem_of_getElem? (i := 28) rfl)) (hw _ (List.mem_of_getElem? (i := 29) rfl)) (hw _ (List.mem_of_getElem? (i := 30) rfl)) (hw _ (List.mem_of_getElem? (i := 32) rfl)) (hw _ (List.mem_of_getElem? (i := 31) rfl)) (hw _ (List.mem_of_getElem? (i := 34) rfl)) (hw _ (List.mem_of_getElem? (i := 33) rfl)) (by decide) (rm3 l Z a0 hw [] a1 (4 : Int32) (4 : Int32) h0 n0 hn0 F (by rw [own_f_rm3]; try first | rfl | decide)) e0 E (by rw [hml]; rfl) (argsL := []) (rest := []) rfl rfl (lenOf own_pd0 rfl) (W := 0) (Nat.le_of_eq rfl) (by decide) (by decide) (hb hby d_prog_33_method_6_1) (by decide) (by decide) ?_
  intro v29 T29 L29 X29 q29
  obtain ⟨rfl, N29q, e29⟩ := q29
  have N29 := Fr.app N0 N29q
  show Go _ _ _ _ _ T29 (mkF m 4 #[.val (.ref a1), .val (.int p1)] [(.int (4 : Int32))])
  refine own_go (fun t k => XS.tswIn X29.here hx rfl (pc0 := 4) (pc' := 102) rfl (hb hby d_prog_33_method_6_4) rfl (by decide) (o := 98) (by decide) (by decide) (by decide) k) ?_
  show Go _ _ _ _ _ T29 (mkF m 102 #[.val (.ref a1), .val (.int p1)] [])
  refine own_go (fun t k => XS.iloadN X29.here hx rfl (hb hby d_prog_33_method_6_102) rfl k) ?_
  show Go _ _ _ _ _ T29 (mkF m 103 #[.val (.ref a1), .val (.int p1)] [(.int p1)])
  refine own_ifM ((0 : Int32) < p1) X29 hx (hb hby d_prog_33_method_6_103) (own_le _ _) (by decide) (by decide) (pc' := 110) (fun hc30 => ?_) (fun hc30 => ?_)
  · skip
    show Go _ _ _ _ _ T29 (mkF m 110 #[.val (.ref a1), .val (.int p1)] [])
    refine own_go (fun t k => XS.iconst X29.here hx rfl (hb hby d_prog_33_method_6_110) k) ?_
    show Go _ _ _ _ _ T29 (mkF m 111 #[.val (.ref a1), .val (.int p1)] [(.int (0 : Int32))])
    refine own_go (fun t k => XS.goto X29.here hx rfl (pc0 := 111) (pc' := 123) rfl (hb hby d_prog_33_method_6_111) (by decide) (by decide) k) ?_
    show Go _ _ _ _ _ T29 (mkF m 123 #[.val (.ref a1), .val (.int p1)] [(.int (0 : Int32))])
    refine own_retN X29 hx (own_lvN X29 hlk (by decide) (by decide)) (t := .boolean) hret (by simp) (hb hby d_prog_33_method_6_123) ?_
    exact ⟨(by rw [← hr, own_f_rm_holds_4, if_neg hc30]; try rfl), N29, e29⟩
  · skip
    show Go _ _ _ _ _ T29 (mkF m 106 #[.val (.ref a1), .val (.int p1)] [])
    refine own_go (fun t k => XS.iconst X29.here hx rfl (hb hby d_prog_33_method_6_106) k) ?_
    show Go _ _ _ _ _ T29 (mkF m 107 #[.val (.ref a1), .val (.int p1)] [(.int (1 : Int32))])
    refine own_go (fun t k => XS.goto X29.here hx rfl (pc0 := 107) (pc' := 123) rfl (hb hby d_prog_33_method_6_107) (by decide) (by decide) k) ?_
    show Go _ _ _ _ _ T29 (mkF m 123 #[.val (.ref a1), .val (.int p1)] [(.int (1 : Int32))])
    refine own_retN X29 hx (own_lvN X29 hlk (by decide) (by decide)) (t := .boolean) hret (by simp) (hb hby d_prog_33_method_6_123) ?_
    exact ⟨(by rw [← hr, own_f_rm_holds_4, if_pos hc30]; try rfl), N29, e29⟩
theorem d_prog_33_method_6_114 : Jvm.ClassFile.decode prog_33_method_6_code 114 = .ok (.iload_n 1, 1) := by decide +kernel
theorem d_prog_33_method_6_115 : Jvm.ClassFile.decode prog_33_method_6_code 115 = .ok (.ifCond .lt 7, 3) := by decide +kernel
theorem d_prog_33_method_6_122 : Jvm.ClassFile.decode prog_33_method_6_code 122 = .ok (.iconst 0, 1) := by decide +kernel
theorem d_prog_33_method_6_118 : Jvm.ClassFile.decode prog_33_method_6_code 118 = .ok (.iconst 1, 1) := by decide +kernel
theorem d_prog_33_method_6_119 : Jvm.ClassFile.decode prog_33_method_6_code 119 = .ok (.goto 4, 3) := by decide +kernel
def own_f_rm_holds_5 (p1 : Int32) : Int32 := (if p1 < (0 : Int32) then (0 : Int32) else (1 : Int32))
theorem own_ef_rm_holds_5 (m : MethodId) (x0 : Addr) (x1 : Int32) : entryFrame m #[(.ref x0), (.int x1)] 2 = mkF m 0 #[.val (.ref x0), .val (.int x1)] [] := by first | (simp [entryFrame, mkF, argsToLocals, Value.category]; done) | rfl
set_option maxRecDepth 65536 in
set_option maxHeartbeats 40000000 in
theorem rm_holds_5 (l : Launch) (Z : State) (a0 : Array Value) (hw : ∀ d ∈ tables_1, d.before a0 Z = true) (ws : List Jvm.Cond) (a1 : Addr) (p1 : Int32) (r : Int32) (h0 : Heap) (n0 : Nat) (hn0 : n0 ≤ h0.size) (E : Exa Z h0 a1 "com/example/tallyfold/tallyfold/expr/ComparisonOperator") (F : Fld Z h0 a1 "java/lang/Enum" "ordinal" "I" (.int (5 : Int32))) (hr : own_f_rm_holds_5 p1 = r) :
    OwnMet l Z (⟨"com/example/tallyfold/tallyfold/expr/ComparisonOperator", "holds", "(I)Z"⟩ : MethodName) prog_33_method_6_code 2 (some .boolean) ws ({ frames := 1, cells := 0, slots := 0, locals := 12 } : Room) #[(.ref a1), (.int p1)] h0 (OwnP (some (.int r)) h0 n0) := by
  refine own_body (plainFor_of_name own_pn0) ?_
  intro p e s m below meth c s₁ X0 hx hby hml hret hlk hown0 hnm hZ e0 hs0
  have hown : s.vm.findClass "com/example/tallyfold/tallyfold/expr/ComparisonOperator" = some m.cls := hown0
  have N0 := Fr.nil n0
  refine own_entry (own_ef_rm_holds_5 m a1 p1) ?_
  show Go _ _ _ _ _ s₁ (mkF m 0 #[.val (.ref a1), .val (.int p1)] [])
  refine own_go (fun t k => XS.aloadN X0.here hx rfl (hb hby d_prog_33_method_6_0) rfl rfl k) ?_
  show Go _ _ _ _ _ s₁ (mkF m 1 #[.val (.ref a1), .val (.int p1)] [(.ref a1)])
  refine own_callU X0 hx hZ (owner := "java/lang/Enum") (y := (⟨"com/example/tallyfold/tallyfold/expr/ComparisonOperator", "ordinal", "()I"⟩ : MethodName)) (z := (⟨"java/lang/Enum", "ordinal", "()I"⟩ : MethodName)) hown (hw _ (List.mem_of_getElem? (i := 28) rfl)) (hw _ (List.mem_of_getElem? (i := 29) rfl)) (hw _ (List.mem_of_getElem? (i := 30) rfl)) (hw _ (List.mem_of_getElem? (i := 32) rfl)) (hw _ (List.mem_of_getElem? (i := 31) rfl)) (hw _ (List.mem_of_getElem? (i := 34) rfl)) (hw _ (List.mem_of_getElem? (i := 33) rfl)) (by decide) (rm3 l Z a0 hw [] a1 (5 : Int32) (5 : Int32) h0 n0 hn0 F (by rw [own_f_rm3]; try first | rfl | decide)) e0 E (by rw [hml]; rfl) (argsL := []) (rest := []) rfl rfl (lenOf own_pd0 rfl) (W := 0) (Nat.le_of_eq rfl) (by decide) (by decide) (hb hby d_prog_33_method_6_1) (by decide) (by decide) ?_
  intro v33 T33 L33 X33 q33
  obtain ⟨rfl, N33q, e33⟩ := q33
  have N33 := Fr.app N0 N33q
  show Go _ _ _ _ _ T33 (mkF m 4 #[.val (.ref a1), .val (.int p1)] [(.int (5 : Int32))])
  refine own_go (fun t k => XS.tswIn X33.here hx rfl (pc0 := 4) (pc' := 114) rfl (hb hby d_prog_33_method_6_4) rfl (by decide) (o := 110) (by decide) (by decide) (by decide) k) ?_
  show Go _ _ _ _ _ T33 (mkF m 114 #[.val (.ref a1), .val (.int p1)] [])
  refine own_go (fun t k => XS.iloadN X33.here hx rfl (hb hby d_prog_33_method_6_114) rfl k) ?_
  show Go _ _ _ _ _ T33 (mkF m 115 #[.val (.ref a1), .val (.int p1)] [(.int p1)])
  refine own_ifP (p1 < (0 : Int32)) X33 hx (hb hby d_prog_33_method_6_115) (own_lt _ _) (by decide) (by decide) (pc' := 122) (fun hc34 => ?_) (fun hc34 => ?_)
  · skip
    show Go _ _ _ _ _ T33 (mkF m 122 #[.val (.ref a1), .val (.int p1)] [])
    refine own_go (fun t k => XS.iconst X33.here hx rfl (hb hby d_prog_33_method_6_122) k) ?_
    show Go _ _ _ _ _ T33 (mkF m 123 #[.val (.ref a1), .val (.int p1)] [(.int (0 : Int32))])
    refine own_retN X33 hx (own_lvN X33 hlk (by decide) (by decide)) (t := .boolean) hret (by simp) (hb hby d_prog_33_method_6_123) ?_
    exact ⟨(by rw [← hr, own_f_rm_holds_5, if_pos hc34]; try rfl), N33, e33⟩
  · skip
    show Go _ _ _ _ _ T33 (mkF m 118 #[.val (.ref a1), .val (.int p1)] [])
    refine own_go (fun t k => XS.iconst X33.here hx rfl (hb hby d_prog_33_method_6_118) k) ?_
    show Go _ _ _ _ _ T33 (mkF m 119 #[.val (.ref a1), .val (.int p1)] [(.int (1 : Int32))])
    refine own_go (fun t k => XS.goto X33.here hx rfl (pc0 := 119) (pc' := 123) rfl (hb hby d_prog_33_method_6_119) (by decide) (by decide) k) ?_
    show Go _ _ _ _ _ T33 (mkF m 123 #[.val (.ref a1), .val (.int p1)] [(.int (1 : Int32))])
    refine own_retN X33 hx (own_lvN X33 hlk (by decide) (by decide)) (t := .boolean) hret (by simp) (hb hby d_prog_33_method_6_123) ?_
    exact ⟨(by rw [← hr, own_f_rm_holds_5, if_neg hc34]; try rfl), N33, e33⟩
theorem own_pd1 : parseMethodDescriptor "()Z" = some ⟨[], some .boolean⟩ := by decide +kernel
theorem own_pd2 : parseMethodDescriptor "(I)Z" = some ⟨[.int], some .boolean⟩ := by decide +kernel
theorem own_pn2 : plainName "com/example/tallyfold/tallyfold/expr/ComparisonOperatorOrdersValuesPinLaw" = true := by first | (simp [plainName, overriddenIn]; done) | decide +kernel
theorem own_ef_rm0 (m : MethodId) (x0 : Int32) : entryFrame m #[(.int x0)] maxLocals = mkF m 0 #[.val (.int x0), .unset, .unset, .unset, .unset, .unset, .unset] [] := by first | (simp [entryFrame, mkF, argsToLocals, Value.category, maxLocals]; done) | rfl
set_option maxRecDepth 65536 in
set_option maxHeartbeats 40000000 in
theorem rm0 (l : Launch) (Z : State) (a0 : Array Value) (hw : ∀ d ∈ tables_1, d.before a0 Z = true) (ws : List Jvm.Cond) (p1 : Int32) (w_EQUAL : Addr) (w_NOT_EQUAL : Addr) (w_LESS : Addr) (w_LESS_OR_EQUAL : Addr) (w_GREATER : Addr) (w_GREATER_OR_EQUAL : Addr) (h0 : Heap) (n0 : Nat) (hn0 : n0 ≤ h0.size) (S_EQUAL : Sta Z h0 "com/example/tallyfold/tallyfold/expr/ComparisonOperator" "EQUAL" "Lcom/example/tallyfold/tallyfold/expr/ComparisonOperator;" (.ref w_EQUAL)) (E_EQUAL : Exa Z h0 w_EQUAL "com/example/tallyfold/tallyfold/expr/ComparisonOperator") (O_EQUAL_ordinal : Fld Z h0 w_EQUAL "java/lang/Enum" "ordinal" "I" (.int (0 : Int32))) (S_NOT_EQUAL : Sta Z h0 "com/example/tallyfold/tallyfold/expr/ComparisonOperator" "NOT_EQUAL" "Lcom/example/tallyfold/tallyfold/expr/ComparisonOperator;" (.ref w_NOT_EQUAL)) (E_NOT_EQUAL : Exa Z h0 w_NOT_EQUAL "com/example/tallyfold/tallyfold/expr/ComparisonOperator") (O_NOT_EQUAL_ordinal : Fld Z h0 w_NOT_EQUAL "java/lang/Enum" "ordinal" "I" (.int (1 : Int32))) (S_LESS : Sta Z h0 "com/example/tallyfold/tallyfold/expr/ComparisonOperator" "LESS" "Lcom/example/tallyfold/tallyfold/expr/ComparisonOperator;" (.ref w_LESS)) (E_LESS : Exa Z h0 w_LESS "com/example/tallyfold/tallyfold/expr/ComparisonOperator") (O_LESS_ordinal : Fld Z h0 w_LESS "java/lang/Enum" "ordinal" "I" (.int (2 : Int32))) (S_LESS_OR_EQUAL : Sta Z h0 "com/example/tallyfold/tallyfold/expr/ComparisonOperator" "LESS_OR_EQUAL" "Lcom/example/tallyfold/tallyfold/expr/ComparisonOperator;" (.ref w_LESS_OR_EQUAL)) (E_LESS_OR_EQUAL : Exa Z h0 w_LESS_OR_EQUAL "com/example/tallyfold/tallyfold/expr/ComparisonOperator") (O_LESS_OR_EQUAL_ordinal : Fld Z h0 w_LESS_OR_EQUAL "java/lang/Enum" "ordinal" "I" (.int (3 : Int32))) (S_GREATER : Sta Z h0 "com/example/tallyfold/tallyfold/expr/ComparisonOperator" "GREATER" "Lcom/example/tallyfold/tallyfold/expr/ComparisonOperator;" (.ref w_GREATER)) (E_GREATER : Exa Z h0 w_GREATER "com/example/tallyfold/tallyfold/expr/ComparisonOperator") (O_GREATER_ordinal : Fld Z h0 w_GREATER "java/lang/Enum" "ordinal" "I" (.int (4 : Int32))) (S_GREATER_OR_EQUAL : Sta Z h0 "com/example/tallyfold/tallyfold/expr/ComparisonOperator" "GREATER_OR_EQUAL" "Lcom/example/tallyfold/tallyfold/expr/ComparisonOperator;" (.ref w_GREATER_OR_EQUAL)) (E_GREATER_OR_EQUAL : Exa Z h0 w_GREATER_OR_EQUAL "com/example/tallyfold/tallyfold/expr/ComparisonOperator") (O_GREATER_OR_EQUAL_ordinal : Fld Z h0 w_GREATER_OR_EQUAL "java/lang/Enum" "ordinal" "I" (.int (5 : Int32))) :
    OwnMet l Z x code maxLocals ret ws room_1 #[(.int p1)] h0 (OwnR (some (.int 1)) n0) := by
  refine own_body (plainFor_of_name own_pn2) ?_
  intro p e s m below meth c s₁ X0 hx hby hml hret hlk hown0 hnm hZ e0 hs0
  have hown : s.vm.findClass "com/example/tallyfold/tallyfold/expr/ComparisonOperatorOrdersValuesPinLaw" = some m.cls := hown0
  have N0 := Fr.nil n0
  refine own_entry (own_ef_rm0 m p1) ?_
  have D_w_EQUAL_w_NOT_EQUAL : ¬ w_EQUAL = w_NOT_EQUAL := own_ne_fld O_EQUAL_ordinal O_NOT_EQUAL_ordinal (by decide)
  have D_w_EQUAL_w_LESS : ¬ w_EQUAL = w_LESS := own_ne_fld O_EQUAL_ordinal O_LESS_ordinal (by decide)
  have D_w_EQUAL_w_LESS_OR_EQUAL : ¬ w_EQUAL = w_LESS_OR_EQUAL := own_ne_fld O_EQUAL_ordinal O_LESS_OR_EQUAL_ordinal (by decide)
  have D_w_EQUAL_w_GREATER : ¬ w_EQUAL = w_GREATER := own_ne_fld O_EQUAL_ordinal O_GREATER_ordinal (by decide)
  have D_w_EQUAL_w_GREATER_OR_EQUAL : ¬ w_EQUAL = w_GREATER_OR_EQUAL := own_ne_fld O_EQUAL_ordinal O_GREATER_OR_EQUAL_ordinal (by decide)
  have D_w_NOT_EQUAL_w_LESS : ¬ w_NOT_EQUAL = w_LESS := own_ne_fld O_NOT_EQUAL_ordinal O_LESS_ordinal (by decide)
  have D_w_NOT_EQUAL_w_LESS_OR_EQUAL : ¬ w_NOT_EQUAL = w_LESS_OR_EQUAL := own_ne_fld O_NOT_EQUAL_ordinal O_LESS_OR_EQUAL_ordinal (by decide)
  have D_w_NOT_EQUAL_w_GREATER : ¬ w_NOT_EQUAL = w_GREATER := own_ne_fld O_NOT_EQUAL_ordinal O_GREATER_ordinal (by decide)
  have D_w_NOT_EQUAL_w_GREATER_OR_EQUAL : ¬ w_NOT_EQUAL = w_GREATER_OR_EQUAL := own_ne_fld O_NOT_EQUAL_ordinal O_GREATER_OR_EQUAL_ordinal (by decide)
  have D_w_LESS_w_LESS_OR_EQUAL : ¬ w_LESS = w_LESS_OR_EQUAL := own_ne_fld O_LESS_ordinal O_LESS_OR_EQUAL_ordinal (by decide)
  have D_w_LESS_w_GREATER : ¬ w_LESS = w_GREATER := own_ne_fld O_LESS_ordinal O_GREATER_ordinal (by decide)
  have D_w_LESS_w_GREATER_OR_EQUAL : ¬ w_LESS = w_GREATER_OR_EQUAL := own_ne_fld O_LESS_ordinal O_GREATER_OR_EQUAL_ordinal (by decide)
  have D_w_LESS_OR_EQUAL_w_GREATER : ¬ w_LESS_OR_EQUAL = w_GREATER := own_ne_fld O_LESS_OR_EQUAL_ordinal O_GREATER_ordinal (by decide)
  have D_w_LESS_OR_EQUAL_w_GREATER_OR_EQUAL : ¬ w_LESS_OR_EQUAL = w_GREATER_OR_EQUAL := own_ne_fld O_LESS_OR_EQUAL_ordinal O_GREATER_OR_EQUAL_ordinal (by decide)
  have D_w_GREATER_w_GREATER_OR_EQUAL : ¬ w_GREATER = w_GREATER_OR_EQUAL := own_ne_fld O_GREATER_ordinal O_GREATER_OR_EQUAL_ordinal (by decide)
  show Go _ _ _ _ _ s₁ (mkF m 0 #[.val (.int p1), .unset, .unset, .unset, .unset, .unset, .unset] [])
  refine own_go (fun t k => XS.bipush X0.here hx rfl (hb hby at_0) k) ?_
  show Go _ _ _ _ _ s₁ (mkF m 2 #[.val (.int p1), .unset, .unset, .unset, .unset, .unset, .unset] [(.int (6 : Int32))])
  obtain ⟨T35, h35, k35, X35, e35, E35, A35, O35, st35⟩ := newR X0 hx hZ hown (hw _ (List.mem_of_getElem? (i := 0) rfl)) (hw _ (List.mem_of_getElem? (i := 1) rfl)) e0 (g := (mkF m 2 #[.val (.int p1), .unset, .unset, .unset, .unset, .unset, .unset] [(.int (6 : Int32))])) rfl (hb hby at_2) rfl (by decide) (cap := 6) (by decide) (by decide) (by decide) (by decide)
  obtain ⟨b35, g35⟩ : ∃ z, z = h0.size := ⟨_, rfl⟩
  rw [← g35] at A35 st35
  have ne_w_EQUAL_b35 : ¬ w_EQUAL = b35 := Nat.ne_of_lt (by rw [g35]; exact E_EQUAL.lt)
  have ne_w_NOT_EQUAL_b35 : ¬ w_NOT_EQUAL = b35 := Nat.ne_of_lt (by rw [g35]; exact E_NOT_EQUAL.lt)
  have ne_w_LESS_b35 : ¬ w_LESS = b35 := Nat.ne_of_lt (by rw [g35]; exact E_LESS.lt)
  have ne_w_LESS_OR_EQUAL_b35 : ¬ w_LESS_OR_EQUAL = b35 := Nat.ne_of_lt (by rw [g35]; exact E_LESS_OR_EQUAL.lt)
  have ne_w_GREATER_b35 : ¬ w_GREATER = b35 := Nat.ne_of_lt (by rw [g35]; exact E_GREATER.lt)
  have ne_w_GREATER_OR_EQUAL_b35 : ¬ w_GREATER_OR_EQUAL = b35 := Nat.ne_of_lt (by rw [g35]; exact E_GREATER_OR_EQUAL.lt)
  replace S_EQUAL := S_EQUAL.ext E35
  replace S_NOT_EQUAL := S_NOT_EQUAL.ext E35
  replace S_LESS := S_LESS.ext E35
  replace S_LESS_OR_EQUAL := S_LESS_OR_EQUAL.ext E35
  replace S_GREATER := S_GREATER.ext E35
  replace S_GREATER_OR_EQUAL := S_GREATER_OR_EQUAL.ext E35
  replace E_EQUAL := E_EQUAL.ext E35
  replace E_NOT_EQUAL := E_NOT_EQUAL.ext E35
  replace E_LESS := E_LESS.ext E35
  replace E_LESS_OR_EQUAL := E_LESS_OR_EQUAL.ext E35
  replace E_GREATER := E_GREATER.ext E35
  replace E_GREATER_OR_EQUAL := E_GREATER_OR_EQUAL.ext E35
  replace O_EQUAL_ordinal := O_EQUAL_ordinal.ext E35
  replace O_NOT_EQUAL_ordinal := O_NOT_EQUAL_ordinal.ext E35
  replace O_LESS_ordinal := O_LESS_ordinal.ext E35
  replace O_LESS_OR_EQUAL_ordinal := O_LESS_OR_EQUAL_ordinal.ext E35
  replace O_GREATER_ordinal := O_GREATER_ordinal.ext E35
  replace O_GREATER_OR_EQUAL_ordinal := O_GREATER_OR_EQUAL_ordinal.ext E35
  have g_b35 : n0 ≤ b35 := by rw [g35]; exact hn0
  have hn35 : n0 ≤ h35.size := Nat.le_trans hn0 E35.1
  refine own_go (fun t k => st35 t k) ?_
  have V35 : Arv Z h35 b35 k35 (.object "com/example/tallyfold/tallyfold/expr/ComparisonOperator") (6 : Int32) [.null, .null, .null, .null, .null, .null] .null := (Arv.new A35 (by decide)).pad (pad_rep [] .null 6)
  show Go _ _ _ _ _ T35 (mkF m 5 #[.val (.int p1), .unset, .unset, .unset, .unset, .unset, .unset] [(.ref b35)])
  refine own_go (fun t k => XS.dup X35.here hx rfl (hb hby at_5) rfl rfl k) ?_
  show Go _ _ _ _ _ T35 (mkF m 6 #[.val (.int p1), .unset, .unset, .unset, .unset, .unset, .unset] [(.ref b35), (.ref b35)])
  refine own_go (fun t k => XS.iconst X35.here hx rfl (hb hby at_6) k) ?_
  show Go _ _ _ _ _ T35 (mkF m 7 #[.val (.int p1), .unset, .unset, .unset, .unset, .unset, .unset] [(.int (0 : Int32)), (.ref b35), (.ref b35)])
  obtain ⟨T36, X36, e36, st36⟩ := getS2 X35 hx hZ hown (host := "") (Or.inl (hw _ (List.mem_of_getElem? (i := 2) rfl))) Via.refl e35 S_EQUAL (g := (mkF m 7 #[.val (.int p1), .unset, .unset, .unset, .unset, .unset, .unset] [(.int (0 : Int32)), (.ref b35), (.ref b35)])) rfl (hb hby at_7)
  refine own_go (fun t k => st36 t k) ?_
  show Go _ _ _ _ _ T36 (mkF m 10 #[.val (.int p1), .unset, .unset, .unset, .unset, .unset, .unset] [(.ref w_EQUAL), (.int (0 : Int32)), (.ref b35), (.ref b35)])
  obtain ⟨cl37, Ar37, q37, S37, N37z, H37, G37⟩ := V35
  have hin37 := inb_of S37 (j := (0 : Int32)) (z := (6 : Int32)) ⟨by decide, by decide⟩
  obtain ⟨T37, h37, X37, e37, W37, st37⟩ := stR X36 hx hZ e36 Ar37 (j := (0 : Int32)) hin37 rfl (Sto.ofV Ar37 q37 O35 (Ins.self E_EQUAL)) (g := (mkF m 10 #[.val (.int p1), .unset, .unset, .unset, .unset, .unset, .unset] [(.ref w_EQUAL), (.int (0 : Int32)), (.ref b35), (.ref b35)])) rfl rfl (hb hby at_10)
  replace S_EQUAL := S_EQUAL.wr W37
  replace S_NOT_EQUAL := S_NOT_EQUAL.wr W37
  replace S_LESS := S_LESS.wr W37
  replace S_LESS_OR_EQUAL := S_LESS_OR_EQUAL.wr W37
  replace S_GREATER := S_GREATER.wr W37
  replace S_GREATER_OR_EQUAL := S_GREATER_OR_EQUAL.wr W37
  replace E_EQUAL := E_EQUAL.wr W37
  replace E_NOT_EQUAL := E_NOT_EQUAL.wr W37
  replace E_LESS := E_LESS.wr W37
  replace E_LESS_OR_EQUAL := E_LESS_OR_EQUAL.wr W37
  replace E_GREATER := E_GREATER.wr W37
  replace E_GREATER_OR_EQUAL := E_GREATER_OR_EQUAL.wr W37
  replace O_EQUAL_ordinal := O_EQUAL_ordinal.other W37 (Or.inl ne_w_EQUAL_b35)
  replace O_NOT_EQUAL_ordinal := O_NOT_EQUAL_ordinal.other W37 (Or.inl ne_w_NOT_EQUAL_b35)
  replace O_LESS_ordinal := O_LESS_ordinal.other W37 (Or.inl ne_w_LESS_b35)
  replace O_LESS_OR_EQUAL_ordinal := O_LESS_OR_EQUAL_ordinal.other W37 (Or.inl ne_w_LESS_OR_EQUAL_b35)
  replace O_GREATER_ordinal := O_GREATER_ordinal.other W37 (Or.inl ne_w_GREATER_b35)
  replace O_GREATER_OR_EQUAL_ordinal := O_GREATER_OR_EQUAL_ordinal.other W37 (Or.inl ne_w_GREATER_OR_EQUAL_b35)
  have V37 : Arv Z h37 b35 k35 (.object "com/example/tallyfold/tallyfold/expr/ComparisonOperator") (6 : Int32) [(.ref w_EQUAL), .null, .null, .null, .null, .null] .null := Arv.set Ar37 q37 S37 N37z H37 G37 rfl W37 0 rfl (Nat.le_of_ble_eq_true rfl)
  have N37 := Fr.snoc X37 N0 g_b35
  have hn37 : n0 ≤ h37.size := Nat.le_trans hn35 (Keep.of_wr W37).1
  refine own_go (fun t k => st37 t k) ?_
  show Go _ _ _ _ _ T37 (mkF m 11 #[.val (.int p1), .unset, .unset, .unset, .unset, .unset, .unset] [(.ref b35)])
  refine own_go (fun t k => XS.dup X37.here hx rfl (hb hby at_11) rfl rfl k) ?_
  show Go _ _ _ _ _ T37 (mkF m 12 #[.val (.int p1), .unset, .unset, .unset, .unset, .unset, .unset] [(.ref b35), (.ref b35)])
  refine own_go (fun t k => XS.iconst X37.here hx rfl (hb hby at_12) k) ?_
  show Go _ _ _ _ _ T37 (mkF m 13 #[.val (.int p1), .unset, .unset, .unset, .unset, .unset, .unset] [(.int (1 : Int32)), (.ref b35), (.ref b35)])
  obtain ⟨T38, X38, e38, st38⟩ := getS2 X37 hx hZ hown (host := "") (Or.inl (hw _ (List.mem_of_getElem? (i := 6) rfl))) Via.refl e37 S_NOT_EQUAL (g := (mkF m 13 #[.val (.int p1), .unset, .unset, .unset, .unset, .unset, .unset] [(.int (1 : Int32)), (.ref b35), (.ref b35)])) rfl (hb hby at_13)
  refine own_go (fun t k => st38 t k) ?_
  show Go _ _ _ _ _ T38 (mkF m 16 #[.val (.int p1), .unset, .unset, .unset, .unset, .unset, .unset] [(.ref w_NOT_EQUAL), (.int (1 : Int32)), (.ref b35), (.ref b35)])
  obtain ⟨cl39, Ar39, q39, S39, N39z, H39, G39⟩ := V37
  have hin39 := inb_of S39 (j := (1 : Int32)) (z := (6 : Int32)) ⟨by decide, by decide⟩
  obtain ⟨T39, h39, X39, e39, W39, st39⟩ := stR X38 hx hZ e38 Ar39 (j := (1 : Int32)) hin39 rfl (Sto.ofV Ar39 q39 O35 (Ins.self E_NOT_EQUAL)) (g := (mkF m 16 #[.val (.int p1), .unset, .unset, .unset, .unset, .unset, .unset] [(.ref w_NOT_EQUAL), (.int (1 : Int32)), (.ref b35), (.ref b35)])) rfl rfl (hb hby at_16)
  replace S_EQUAL := S_EQUAL.wr W39
  replace S_NOT_EQUAL := S_NOT_EQUAL.wr W39
  replace S_LESS := S_LESS.wr W39
  replace S_LESS_OR_EQUAL := S_LESS_OR_EQUAL.wr W39
  replace S_GREATER := S_GREATER.wr W39
  replace S_GREATER_OR_EQUAL := S_GREATER_OR_EQUAL.wr W39
  replace E_EQUAL := E_EQUAL.wr W39
  replace E_NOT_EQUAL := E_NOT_EQUAL.wr W39
  replace E_LESS := E_LESS.wr W39
  replace E_LESS_OR_EQUAL := E_LESS_OR_EQUAL.wr W39
  replace E_GREATER := E_GREATER.wr W39
  replace E_GREATER_OR_EQUAL := E_GREATER_OR_EQUAL.wr W39
  replace O_EQUAL_ordinal := O_EQUAL_ordinal.other W39 (Or.inl ne_w_EQUAL_b35)
  replace O_NOT_EQUAL_ordinal := O_NOT_EQUAL_ordinal.other W39 (Or.inl ne_w_NOT_EQUAL_b35)
  replace O_LESS_ordinal := O_LESS_ordinal.other W39 (Or.inl ne_w_LESS_b35)
  replace O_LESS_OR_EQUAL_ordinal := O_LESS_OR_EQUAL_ordinal.other W39 (Or.inl ne_w_LESS_OR_EQUAL_b35)
  replace O_GREATER_ordinal := O_GREATER_ordinal.other W39 (Or.inl ne_w_GREATER_b35)
  replace O_GREATER_OR_EQUAL_ordinal := O_GREATER_OR_EQUAL_ordinal.other W39 (Or.inl ne_w_GREATER_OR_EQUAL_b35)
  have V39 : Arv Z h39 b35 k35 (.object "com/example/tallyfold/tallyfold/expr/ComparisonOperator") (6 : Int32) [(.ref w_EQUAL), (.ref w_NOT_EQUAL), .null, .null, .null, .null] .null := Arv.set Ar39 q39 S39 N39z H39 G39 rfl W39 1 rfl (Nat.le_of_ble_eq_true rfl)
  have N39 := Fr.snoc X39 N37 g_b35
  have hn39 : n0 ≤ h39.size := Nat.le_trans hn37 (Keep.of_wr W39).1
  refine own_go (fun t k => st39 t k) ?_
  show Go _ _ _ _ _ T39 (mkF m 17 #[.val (.int p1), .unset, .unset, .unset, .unset, .unset, .unset] [(.ref b35)])
  refine own_go (fun t k => XS.dup X39.here hx rfl (hb hby at_17) rfl rfl k) ?_
  show Go _ _ _ _ _ T39 (mkF m 18 #[.val (.int p1), .unset, .unset, .unset, .unset, .unset, .unset] [(.ref b35), (.ref b35)])
  refine own_go (fun t k => XS.iconst X39.here hx rfl (hb hby at_18) k) ?_
  show Go _ _ _ _ _ T39 (mkF m 19 #[.val (.int p1), .unset, .unset, .unset, .unset, .unset, .unset] [(.int (2 : Int32)), (.ref b35), (.ref b35)])
  obtain ⟨T40, X40, e40, st40⟩ := getS2 X39 hx hZ hown (host := "") (Or.inl (hw _ (List.mem_of_getElem? (i := 8) rfl))) Via.refl e39 S_LESS (g := (mkF m 19 #[.val (.int p1), .unset, .unset, .unset, .unset, .unset, .unset] [(.int (2 : Int32)), (.ref b35), (.ref b35)])) rfl (hb hby at_19)
  refine own_go (fun t k => st40 t k) ?_
  show Go _ _ _ _ _ T40 (mkF m 22 #[.val (.int p1), .unset, .unset, .unset, .unset, .unset, .unset] [(.ref w_LESS), (.int (2 : Int32)), (.ref b35), (.ref b35)])
  obtain ⟨cl41, Ar41, q41, S41, N41z, H41, G41⟩ := V39
  have hin41 := inb_of S41 (j := (2 : Int32)) (z := (6 : Int32)) ⟨by decide, by decide⟩
  obtain ⟨T41, h41, X41, e41, W41, st41⟩ := stR X40 hx hZ e40 Ar41 (j := (2 : Int32)) hin41 rfl (Sto.ofV Ar41 q41 O35 (Ins.self E_LESS)) (g := (mkF m 22 #[.val (.int p1), .unset, .unset, .unset, .unset, .unset, .unset] [(.ref w_LESS), (.int (2 : Int32)), (.ref b35), (.ref b35)])) rfl rfl (hb hby at_22)
  replace S_EQUAL := S_EQUAL.wr W41
  replace S_NOT_EQUAL := S_NOT_EQUAL.wr W41
  replace S_LESS := S_LESS.wr W41
  replace S_LESS_OR_EQUAL := S_LESS_OR_EQUAL.wr W41
  replace S_GREATER := S_GREATER.wr W41
  replace S_GREATER_OR_EQUAL := S_GREATER_OR_EQUAL.wr W41
  replace E_EQUAL := E_EQUAL.wr W41
  replace E_NOT_EQUAL := E_NOT_EQUAL.wr W41
  replace E_LESS := E_LESS.wr W41
  replace E_LESS_OR_EQUAL := E_LESS_OR_EQUAL.wr W41
  replace E_GREATER := E_GREATER.wr W41
  replace E_GREATER_OR_EQUAL := E_GREATER_OR_EQUAL.wr W41
  replace O_EQUAL_ordinal := O_EQUAL_ordinal.other W41 (Or.inl ne_w_EQUAL_b35)
  replace O_NOT_EQUAL_ordinal := O_NOT_EQUAL_ordinal.other W41 (Or.inl ne_w_NOT_EQUAL_b35)
  replace O_LESS_ordinal := O_LESS_ordinal.other W41 (Or.inl ne_w_LESS_b35)
  replace O_LESS_OR_EQUAL_ordinal := O_LESS_OR_EQUAL_ordinal.other W41 (Or.inl ne_w_LESS_OR_EQUAL_b35)
  replace O_GREATER_ordinal := O_GREATER_ordinal.other W41 (Or.inl ne_w_GREATER_b35)
  replace O_GREATER_OR_EQUAL_ordinal := O_GREATER_OR_EQUAL_ordinal.other W41 (Or.inl ne_w_GREATER_OR_EQUAL_b35)
  have V41 : Arv Z h41 b35 k35 (.object "com/example/tallyfold/tallyfold/expr/ComparisonOperator") (6 : Int32) [(.ref w_EQUAL), (.ref w_NOT_EQUAL), (.ref w_LESS), .null, .null, .null] .null := Arv.set Ar41 q41 S41 N41z H41 G41 rfl W41 2 rfl (Nat.le_of_ble_eq_true rfl)
  have N41 := Fr.snoc X41 N39 g_b35
  have hn41 : n0 ≤ h41.size := Nat.le_trans hn39 (Keep.of_wr W41).1
  refine own_go (fun t k => st41 t k) ?_
  show Go _ _ _ _ _ T41 (mkF m 23 #[.val (.int p1), .unset, .unset, .unset, .unset, .unset, .unset] [(.ref b35)])
  refine own_go (fun t k => XS.dup X41.here hx rfl (hb hby at_23) rfl rfl k) ?_
  show Go _ _ _ _ _ T41 (mkF m 24 #[.val (.int p1), .unset, .unset, .unset, .unset, .unset, .unset] [(.ref b35), (.ref b35)])
  refine own_go (fun t k => XS.iconst X41.here hx rfl (hb hby at_24) k) ?_
  show Go _ _ _ _ _ T41 (mkF m 25 #[.val (.int p1), .unset, .unset, .unset, .unset, .unset, .unset] [(.int (3 : Int32)), (.ref b35), (.ref b35)])
  obtain ⟨T42, X42, e42, st42⟩ := getS2 X41 hx hZ hown (host := "") (Or.inl (hw _ (List.mem_of_getElem? (i := 10) rfl))) Via.refl e41 S_LESS_OR_EQUAL (g := (mkF m 25 #[.val (.int p1), .unset, .unset, .unset, .unset, .unset, .unset] [(.int (3 : Int32)), (.ref b35), (.ref b35)])) rfl (hb hby at_25)
  refine own_go (fun t k => st42 t k) ?_
  show Go _ _ _ _ _ T42 (mkF m 28 #[.val (.int p1), .unset, .unset, .unset, .unset, .unset, .unset] [(.ref w_LESS_OR_EQUAL), (.int (3 : Int32)), (.ref b35), (.ref b35)])
  obtain ⟨cl43, Ar43, q43, S43, N43z, H43, G43⟩ := V41
  have hin43 := inb_of S43 (j := (3 : Int32)) (z := (6 : Int32)) ⟨by decide, by decide⟩
  obtain ⟨T43, h43, X43, e43, W43, st43⟩ := stR X42 hx hZ e42 Ar43 (j := (3 : Int32)) hin43 rfl (Sto.ofV Ar43 q43 O35 (Ins.self E_LESS_OR_EQUAL)) (g := (mkF m 28 #[.val (.int p1), .unset, .unset, .unset, .unset, .unset, .unset] [(.ref w_LESS_OR_EQUAL), (.int (3 : Int32)), (.ref b35), (.ref b35)])) rfl rfl (hb hby at_28)
  replace S_EQUAL := S_EQUAL.wr W43
  replace S_NOT_EQUAL := S_NOT_EQUAL.wr W43
  replace S_LESS := S_LESS.wr W43
  replace S_LESS_OR_EQUAL := S_LESS_OR_EQUAL.wr W43
  replace S_GREATER := S_GREATER.wr W43
  replace S_GREATER_OR_EQUAL := S_GREATER_OR_EQUAL.wr W43
  replace E_EQUAL := E_EQUAL.wr W43
  replace E_NOT_EQUAL := E_NOT_EQUAL.wr W43
  replace E_LESS := E_LESS.wr W43
  replace E_LESS_OR_EQUAL := E_LESS_OR_EQUAL.wr W43
  replace E_GREATER := E_GREATER.wr W43
  replace E_GREATER_OR_EQUAL := E_GREATER_OR_EQUAL.wr W43
  replace O_EQUAL_ordinal := O_EQUAL_ordinal.other W43 (Or.inl ne_w_EQUAL_b35)
  replace O_NOT_EQUAL_ordinal := O_NOT_EQUAL_ordinal.other W43 (Or.inl ne_w_NOT_EQUAL_b35)
  replace O_LESS_ordinal := O_LESS_ordinal.other W43 (Or.inl ne_w_LESS_b35)
  replace O_LESS_OR_EQUAL_ordinal := O_LESS_OR_EQUAL_ordinal.other W43 (Or.inl ne_w_LESS_OR_EQUAL_b35)
  replace O_GREATER_ordinal := O_GREATER_ordinal.other W43 (Or.inl ne_w_GREATER_b35)
  replace O_GREATER_OR_EQUAL_ordinal := O_GREATER_OR_EQUAL_ordinal.other W43 (Or.inl ne_w_GREATER_OR_EQUAL_b35)
  have V43 : Arv Z h43 b35 k35 (.object "com/example/tallyfold/tallyfold/expr/ComparisonOperator") (6 : Int32) [(.ref w_EQUAL), (.ref w_NOT_EQUAL), (.ref w_LESS), (.ref w_LESS_OR_EQUAL), .null, .null] .null := Arv.set Ar43 q43 S43 N43z H43 G43 rfl W43 3 rfl (Nat.le_of_ble_eq_true rfl)
  have N43 := Fr.snoc X43 N41 g_b35
  have hn43 : n0 ≤ h43.size := Nat.le_trans hn41 (Keep.of_wr W43).1
  refine own_go (fun t k => st43 t k) ?_
  show Go _ _ _ _ _ T43 (mkF m 29 #[.val (.int p1), .unset, .unset, .unset, .unset, .unset, .unset] [(.ref b35)])
  refine own_go (fun t k => XS.dup X43.here hx rfl (hb hby at_29) rfl rfl k) ?_
  show Go _ _ _ _ _ T43 (mkF m 30 #[.val (.int p1), .unset, .unset, .unset, .unset, .unset, .unset] [(.ref b35), (.ref b35)])
  refine own_go (fun t k => XS.iconst X43.here hx rfl (hb hby at_30) k) ?_
  show Go _ _ _ _ _ T43 (mkF m 31 #[.val (.int p1), .unset, .unset, .unset, .unset, .unset, .unset] [(.int (4 : Int32)), (.ref b35), (.ref b35)])
  obtain ⟨T44, X44, e44, st44⟩ := getS2 X43 hx hZ hown (host := "") (Or.inl (hw _ (List.mem_of_getElem? (i := 12) rfl))) Via.refl e43 S_GREATER (g := (mkF m 31 #[.val (.int p1), .unset, .unset, .unset, .unset, .unset, .unset] [(.int (4 : Int32)), (.ref b35), (.ref b35)])) rfl (hb hby at_31)
  refine own_go (fun t k => st44 t k) ?_
  show Go _ _ _ _ _ T44 (mkF m 34 #[.val (.int p1), .unset, .unset, .unset, .unset, .unset, .unset] [(.ref w_GREATER), (.int (4 : Int32)), (.ref b35), (.ref b35)])
  obtain ⟨cl45, Ar45, q45, S45, N45z, H45, G45⟩ := V43
  have hin45 := inb_of S45 (j := (4 : Int32)) (z := (6 : Int32)) ⟨by decide, by decide⟩
  obtain ⟨T45, h45, X45, e45, W45, st45⟩ := stR X44 hx hZ e44 Ar45 (j := (4 : Int32)) hin45 rfl (Sto.ofV Ar45 q45 O35 (Ins.self E_GREATER)) (g := (mkF m 34 #[.val (.int p1), .unset, .unset, .unset, .unset, .unset, .unset] [(.ref w_GREATER), (.int (4 : Int32)), (.ref b35), (.ref b35)])) rfl rfl (hb hby at_34)
  replace S_EQUAL := S_EQUAL.wr W45
  replace S_NOT_EQUAL := S_NOT_EQUAL.wr W45
  replace S_LESS := S_LESS.wr W45
  replace S_LESS_OR_EQUAL := S_LESS_OR_EQUAL.wr W45
  replace S_GREATER := S_GREATER.wr W45
  replace S_GREATER_OR_EQUAL := S_GREATER_OR_EQUAL.wr W45
  replace E_EQUAL := E_EQUAL.wr W45
  replace E_NOT_EQUAL := E_NOT_EQUAL.wr W45
  replace E_LESS := E_LESS.wr W45
  replace E_LESS_OR_EQUAL := E_LESS_OR_EQUAL.wr W45
  replace E_GREATER := E_GREATER.wr W45
  replace E_GREATER_OR_EQUAL := E_GREATER_OR_EQUAL.wr W45
  replace O_EQUAL_ordinal := O_EQUAL_ordinal.other W45 (Or.inl ne_w_EQUAL_b35)
  replace O_NOT_EQUAL_ordinal := O_NOT_EQUAL_ordinal.other W45 (Or.inl ne_w_NOT_EQUAL_b35)
  replace O_LESS_ordinal := O_LESS_ordinal.other W45 (Or.inl ne_w_LESS_b35)
  replace O_LESS_OR_EQUAL_ordinal := O_LESS_OR_EQUAL_ordinal.other W45 (Or.inl ne_w_LESS_OR_EQUAL_b35)
  replace O_GREATER_ordinal := O_GREATER_ordinal.other W45 (Or.inl ne_w_GREATER_b35)
  replace O_GREATER_OR_EQUAL_ordinal := O_GREATER_OR_EQUAL_ordinal.other W45 (Or.inl ne_w_GREATER_OR_EQUAL_b35)
  have V45 : Arv Z h45 b35 k35 (.object "com/example/tallyfold/tallyfold/expr/ComparisonOperator") (6 : Int32) [(.ref w_EQUAL), (.ref w_NOT_EQUAL), (.ref w_LESS), (.ref w_LESS_OR_EQUAL), (.ref w_GREATER), .null] .null := Arv.set Ar45 q45 S45 N45z H45 G45 rfl W45 4 rfl (Nat.le_of_ble_eq_true rfl)
  have N45 := Fr.snoc X45 N43 g_b35
  have hn45 : n0 ≤ h45.size := Nat.le_trans hn43 (Keep.of_wr W45).1
  refine own_go (fun t k => st45 t k) ?_
  show Go _ _ _ _ _ T45 (mkF m 35 #[.val (.int p1), .unset, .unset, .unset, .unset, .unset, .unset] [(.ref b35)])
  refine own_go (fun t k => XS.dup X45.here hx rfl (hb hby at_35) rfl rfl k) ?_
  show Go _ _ _ _ _ T45 (mkF m 36 #[.val (.int p1), .unset, .unset, .unset, .unset, .unset, .unset] [(.ref b35), (.ref b35)])
  refine own_go (fun t k => XS.iconst X45.here hx rfl (hb hby at_36) k) ?_
  show Go _ _ _ _ _ T45 (mkF m 37 #[.val (.int p1), .unset, .unset, .unset, .unset, .unset, .unset] [(.int (5 : Int32)), (.ref b35), (.ref b35)])
  obtain ⟨T46, X46, e46, st46⟩ := getS2 X45 hx hZ hown (host := "") (Or.inl (hw _ (List.mem_of_getElem? (i := 14) rfl))) Via.refl e45 S_GREATER_OR_EQUAL (g := (mkF m 37 #[.val (.int p1), .unset, .unset, .unset, .unset, .unset, .unset] [(.int (5 : Int32)), (.ref b35), (.ref b35)])) rfl (hb hby at_37)
  refine own_go (fun t k => st46 t k) ?_
  show Go _ _ _ _ _ T46 (mkF m 40 #[.val (.int p1), .unset, .unset, .unset, .unset, .unset, .unset] [(.ref w_GREATER_OR_EQUAL), (.int (5 : Int32)), (.ref b35), (.ref b35)])
  obtain ⟨cl47, Ar47, q47, S47, N47z, H47, G47⟩ := V45
  have hin47 := inb_of S47 (j := (5 : Int32)) (z := (6 : Int32)) ⟨by decide, by decide⟩
  obtain ⟨T47, h47, X47, e47, W47, st47⟩ := stR X46 hx hZ e46 Ar47 (j := (5 : Int32)) hin47 rfl (Sto.ofV Ar47 q47 O35 (Ins.self E_GREATER_OR_EQUAL)) (g := (mkF m 40 #[.val (.int p1), .unset, .unset, .unset, .unset, .unset, .unset] [(.ref w_GREATER_OR_EQUAL), (.int (5 : Int32)), (.ref b35), (.ref b35)])) rfl rfl (hb hby at_40)
  replace S_EQUAL := S_EQUAL.wr W47
  replace S_NOT_EQUAL := S_NOT_EQUAL.wr W47
  replace S_LESS := S_LESS.wr W47
  replace S_LESS_OR_EQUAL := S_LESS_OR_EQUAL.wr W47
  replace S_GREATER := S_GREATER.wr W47
  replace S_GREATER_OR_EQUAL := S_GREATER_OR_EQUAL.wr W47
  replace E_EQUAL := E_EQUAL.wr W47
  replace E_NOT_EQUAL := E_NOT_EQUAL.wr W47
  replace E_LESS := E_LESS.wr W47
  replace E_LESS_OR_EQUAL := E_LESS_OR_EQUAL.wr W47
  replace E_GREATER := E_GREATER.wr W47
  replace E_GREATER_OR_EQUAL := E_GREATER_OR_EQUAL.wr W47
  replace O_EQUAL_ordinal := O_EQUAL_ordinal.other W47 (Or.inl ne_w_EQUAL_b35)
  replace O_NOT_EQUAL_ordinal := O_NOT_EQUAL_ordinal.other W47 (Or.inl ne_w_NOT_EQUAL_b35)
  replace O_LESS_ordinal := O_LESS_ordinal.other W47 (Or.inl ne_w_LESS_b35)
  replace O_LESS_OR_EQUAL_ordinal := O_LESS_OR_EQUAL_ordinal.other W47 (Or.inl ne_w_LESS_OR_EQUAL_b35)
  replace O_GREATER_ordinal := O_GREATER_ordinal.other W47 (Or.inl ne_w_GREATER_b35)
  replace O_GREATER_OR_EQUAL_ordinal := O_GREATER_OR_EQUAL_ordinal.other W47 (Or.inl ne_w_GREATER_OR_EQUAL_b35)
  have V47 : Arv Z h47 b35 k35 (.object "com/example/tallyfold/tallyfold/expr/ComparisonOperator") (6 : Int32) [(.ref w_EQUAL), (.ref w_NOT_EQUAL), (.ref w_LESS), (.ref w_LESS_OR_EQUAL), (.ref w_GREATER), (.ref w_GREATER_OR_EQUAL)] .null := Arv.set Ar47 q47 S47 N47z H47 G47 rfl W47 5 rfl (Nat.le_of_ble_eq_true rfl)
  have N47 := Fr.snoc X47 N45 g_b35
  have hn47 : n0 ≤ h47.size := Nat.le_trans hn45 (Keep.of_wr W47).1
  refine own_go (fun t k => st47 t k) ?_
  show Go _ _ _ _ _ T47 (mkF m 41 #[.val (.int p1), .unset, .unset, .unset, .unset, .unset, .unset] [(.ref b35)])
  refine own_go (fun t k => XS.astoreN X47.here hx rfl (hb hby at_41) rfl rfl (l' := #[.val (.int p1), .val (.ref b35), .unset, .unset, .unset, .unset, .unset]) rfl k) ?_
  show Go _ _ _ _ _ T47 (mkF m 42 #[.val (.int p1), .val (.ref b35), .unset, .unset, .unset, .unset, .unset] [])
  refine own_go (fun t k => XS.iloadN X47.here hx rfl (hb hby at_42) rfl k) ?_
  show Go _ _ _ _ _ T47 (mkF m 43 #[.val (.int p1), .val (.ref b35), .unset, .unset, .unset, .unset, .unset] [(.int p1)])
  refine own_go (fun t k => X47.ldcInt hx hown (mvT hZ (hw _ (List.mem_of_getElem? (i := 16) rfl))) (g := (mkF m 43 #[.val (.int p1), .val (.ref b35), .unset, .unset, .unset, .unset, .unset] [(.int p1)])) rfl (hb hby at_43) _ k) ?_
  show Go _ _ _ _ _ T47 (mkF m 45 #[.val (.int p1), .val (.ref b35), .unset, .unset, .unset, .unset, .unset] [(.int (2147483647 : Int32)), (.int p1)])
  refine own_go (fun t k => XS.iand X47.here hx rfl (hb hby at_45) rfl k) ?_
  show Go _ _ _ _ _ T47 (mkF m 46 #[.val (.int p1), .val (.ref b35), .unset, .unset, .unset, .unset, .unset] [(.int (p1 &&& (2147483647 : Int32)))])
  refine own_go (fun t k => XS.bipush X47.here hx rfl (hb hby at_46) k) ?_
  show Go _ _ _ _ _ T47 (mkF m 48 #[.val (.int p1), .val (.ref b35), .unset, .unset, .unset, .unset, .unset] [(.int (6 : Int32)), (.int (p1 &&& (2147483647 : Int32)))])
  refine own_go (fun t k => iremM X47 hx rfl (hb hby at_48) rfl (by decide) k) ?_
  show Go _ _ _ _ _ T47 (mkF m 49 #[.val (.int p1), .val (.ref b35), .unset, .unset, .unset, .unset, .unset] [(.int ((p1 &&& (2147483647 : Int32)) % (6 : Int32)))])
  refine own_go (fun t k => XS.istoreN X47.here hx rfl (hb hby at_49) rfl (l' := #[.val (.int p1), .val (.ref b35), .val (.int ((p1 &&& (2147483647 : Int32)) % (6 : Int32))), .unset, .unset, .unset, .unset]) rfl k) ?_
  have hi := own_rem6 p1
  generalize ((p1 &&& (2147483647 : Int32)) % (6 : Int32)) = i at hi ⊢
  rcases hi with rfl | rfl | rfl | rfl | rfl | rfl
  · skip
    show Go _ _ _ _ _ T47 (mkF m 50 #[.val (.int p1), .val (.ref b35), .val (.int (0 : Int32)), .unset, .unset, .unset, .unset] [])
    refine own_go (fun t k => XS.aloadN X47.here hx rfl (hb hby at_50) rfl rfl k) ?_
    show Go _ _ _ _ _ T47 (mkF m 51 #[.val (.int p1), .val (.ref b35), .val (.int (0 : Int32)), .unset, .unset, .unset, .unset] [(.ref b35)])
    refine own_go (fun t k => XS.iloadN X47.here hx rfl (hb hby at_51) rfl k) ?_
    show Go _ _ _ _ _ T47 (mkF m 52 #[.val (.int p1), .val (.ref b35), .val (.int (0 : Int32)), .unset, .unset, .unset, .unset] [(.int (0 : Int32)), (.ref b35)])
    obtain ⟨cl48, Ar48, q48, S48, N48z, H48, G48⟩ := id V47
    have hin48 := inb_of S48 (j := (0 : Int32)) (z := (6 : Int32)) ⟨by decide, by decide⟩
    have hat48 : cl48.slots[((0 : Int32)).toNatClampNeg]? = some (.ref w_EQUAL) := H48 _ (Nat.lt_of_not_le fun q => hin48 (Or.inr q))
    refine own_go (fun t k => X47.aaload hx (j := (0 : Int32)) (v := (.ref w_EQUAL)) (by rw [e47]; exact Ar48.1) (State.isArrayOf_alike hZ.alike Ar48.2.1) rfl Ar48.2.2 hin48 hat48 (g := (mkF m 52 #[.val (.int p1), .val (.ref b35), .val (.int (0 : Int32)), .unset, .unset, .unset, .unset] [(.int (0 : Int32)), (.ref b35)])) rfl rfl (hb hby at_52) _ k) ?_
    show Go _ _ _ _ _ T47 (mkF m 53 #[.val (.int p1), .val (.ref b35), .val (.int (0 : Int32)), .unset, .unset, .unset, .unset] [(.ref w_EQUAL)])
    refine own_go (fun t k => XS.astoreN X47.here hx rfl (hb hby at_53) rfl rfl (l' := #[.val (.int p1), .val (.ref b35), .val (.int (0 : Int32)), .val (.ref w_EQUAL), .unset, .unset, .unset]) rfl k) ?_
    show Go _ _ _ _ _ T47 (mkF m 54 #[.val (.int p1), .val (.ref b35), .val (.int (0 : Int32)), .val (.ref w_EQUAL), .unset, .unset, .unset] [])
    refine own_go (fun t k => XS.aloadN X47.here hx rfl (hb hby at_54) rfl rfl k) ?_
    show Go _ _ _ _ _ T47 (mkF m 55 #[.val (.int p1), .val (.ref b35), .val (.int (0 : Int32)), .val (.ref w_EQUAL), .unset, .unset, .unset] [(.ref w_EQUAL)])
    refine own_callV X47 hx hZ (y := (⟨"com/example/tallyfold/tallyfold/expr/ComparisonOperator", "ordersValues", "()Z"⟩ : MethodName)) hown (hw _ (List.mem_of_getElem? (i := 17) rfl)) (hw _ (List.mem_of_getElem? (i := 18) rfl)) (hw _ (List.mem_of_getElem? (i := 20) rfl)) (hw _ (List.mem_of_getElem? (i := 19) rfl)) (hw _ (List.mem_of_getElem? (i := 21) rfl)) (hw _ (List.mem_of_getElem? (i := 3) rfl)) (by decide) (rm1 l Z a0 hw [] w_EQUAL w_EQUAL w_NOT_EQUAL w_LESS w_LESS_OR_EQUAL w_GREATER w_GREATER_OR_EQUAL (0 : Int32) h47 n0 hn47 S_EQUAL S_NOT_EQUAL S_LESS S_LESS_OR_EQUAL S_GREATER S_GREATER_OR_EQUAL (by rw [own_f_rm1, if_pos (show w_EQUAL = w_EQUAL from rfl)]; try first | rfl | decide)) e47 E_EQUAL (by rw [hml]; rfl) (argsL := []) (rest := []) rfl rfl (lenOf own_pd1 rfl) (W := 0) (Nat.le_of_eq rfl) (by decide) (by decide) (hb hby at_55) (by decide) (by decide) ?_
    intro v49 T49 L49 X49 q49
    obtain ⟨rfl, N49q, e49⟩ := q49
    have N49 := Fr.app N47 N49q
    show Go _ _ _ _ _ T49 (mkF m 58 #[.val (.int p1), .val (.ref b35), .val (.int (0 : Int32)), .val (.ref w_EQUAL), .unset, .unset, .unset] [(.int (0 : Int32))])
    refine own_go (fun t k => XS.istore X49.here hx rfl (hb hby at_58) rfl (l' := #[.val (.int p1), .val (.ref b35), .val (.int (0 : Int32)), .val (.ref w_EQUAL), .val (.int (0 : Int32)), .unset, .unset]) rfl k) ?_
    show Go _ _ _ _ _ T49 (mkF m 60 #[.val (.int p1), .val (.ref b35), .val (.int (0 : Int32)), .val (.ref w_EQUAL), .val (.int (0 : Int32)), .unset, .unset] [])
    refine own_go (fun t k => XS.aloadN X49.here hx rfl (hb hby at_60) rfl rfl k) ?_
    show Go _ _ _ _ _ T49 (mkF m 61 #[.val (.int p1), .val (.ref b35), .val (.int (0 : Int32)), .val (.ref w_EQUAL), .val (.int (0 : Int32)), .unset, .unset] [(.ref w_EQUAL)])
    refine own_go (fun t k => XS.iconst X49.here hx rfl (hb hby at_61) k) ?_
    show Go _ _ _ _ _ T49 (mkF m 62 #[.val (.int p1), .val (.ref b35), .val (.int (0 : Int32)), .val (.ref w_EQUAL), .val (.int (0 : Int32)), .unset, .unset] [(.int (-1 : Int32)), (.ref w_EQUAL)])
    refine own_callV X49 hx hZ (y := (⟨"com/example/tallyfold/tallyfold/expr/ComparisonOperator", "holds", "(I)Z"⟩ : MethodName)) hown (hw _ (List.mem_of_getElem? (i := 23) rfl)) (hw _ (List.mem_of_getElem? (i := 24) rfl)) (hw _ (List.mem_of_getElem? (i := 26) rfl)) (hw _ (List.mem_of_getElem? (i := 25) rfl)) (hw _ (List.mem_of_getElem? (i := 27) rfl)) (hw _ (List.mem_of_getElem? (i := 3) rfl)) (by decide) (rm_holds_0 l Z a0 hw [] w_EQUAL (-1 : Int32) (0 : Int32) h47 n0 hn47 E_EQUAL O_EQUAL_ordinal (by rw [own_f_rm_holds_0, if_neg (show ¬ ((-1 : Int32) = (0 : Int32)) by decide)]; try first | rfl | decide)) e49 E_EQUAL (by rw [hml]; rfl) (argsL := [(.int (-1 : Int32))]) (rest := []) rfl rfl (lenOf own_pd2 rfl) (W := 0) (Nat.le_of_eq rfl) (by decide) (by decide) (hb hby at_62) (by decide) (by decide) ?_
    intro v50 T50 L50 X50 q50
    obtain ⟨rfl, N50q, e50⟩ := q50
    have N50 := Fr.app N49 N50q
    show Go _ _ _ _ _ T50 (mkF m 65 #[.val (.int p1), .val (.ref b35), .val (.int (0 : Int32)), .val (.ref w_EQUAL), .val (.int (0 : Int32)), .unset, .unset] [(.int (0 : Int32))])
    refine own_go (fun t k => XS.aloadN X50.here hx rfl (hb hby at_65) rfl rfl k) ?_
    show Go _ _ _ _ _ T50 (mkF m 66 #[.val (.int p1), .val (.ref b35), .val (.int (0 : Int32)), .val (.ref w_EQUAL), .val (.int (0 : Int32)), .unset, .unset] [(.ref w_EQUAL), (.int (0 : Int32))])
    refine own_go (fun t k => XS.iconst X50.here hx rfl (hb hby at_66) k) ?_
    show Go _ _ _ _ _ T50 (mkF m 67 #[.val (.int p1), .val (.ref b35), .val (.int (0 : Int32)), .val (.ref w_EQUAL), .val (.int (0 : Int32)), .unset, .unset] [(.int (1 : Int32)), (.ref w_EQUAL), (.int (0 : Int32))])
    refine own_callV X50 hx hZ (y := (⟨"com/example/tallyfold/tallyfold/expr/ComparisonOperator", "holds", "(I)Z"⟩ : MethodName)) hown (hw _ (List.mem_of_getElem? (i := 23) rfl)) (hw _ (List.mem_of_getElem? (i := 24) rfl)) (hw _ (List.mem_of_getElem? (i := 26) rfl)) (hw _ (List.mem_of_getElem? (i := 25) rfl)) (hw _ (List.mem_of_getElem? (i := 27) rfl)) (hw _ (List.mem_of_getElem? (i := 3) rfl)) (by decide) (rm_holds_0 l Z a0 hw [] w_EQUAL (1 : Int32) (0 : Int32) h47 n0 hn47 E_EQUAL O_EQUAL_ordinal (by rw [own_f_rm_holds_0, if_neg (show ¬ ((1 : Int32) = (0 : Int32)) by decide)]; try first | rfl | decide)) e50 E_EQUAL (by rw [hml]; rfl) (argsL := [(.int (1 : Int32))]) (rest := [(.int (0 : Int32))]) rfl rfl (lenOf own_pd2 rfl) (W := 1) (Nat.le_of_eq rfl) (by decide) (by decide) (hb hby at_67) (by decide) (by decide) ?_
    intro v51 T51 L51 X51 q51
    obtain ⟨rfl, N51q, e51⟩ := q51
    have N51 := Fr.app N50 N51q
    show Go _ _ _ _ _ T51 (mkF m 70 #[.val (.int p1), .val (.ref b35), .val (.int (0 : Int32)), .val (.ref w_EQUAL), .val (.int (0 : Int32)), .unset, .unset] [(.int (0 : Int32)), (.int (0 : Int32))])
    refine own_go (fun t k => XS.icmpYes X51.here hx rfl (pc0 := 70) (pc' := 77) rfl (hb hby at_70) rfl (by decide) (by decide) (by decide) k) ?_
    show Go _ _ _ _ _ T51 (mkF m 77 #[.val (.int p1), .val (.ref b35), .val (.int (0 : Int32)), .val (.ref w_EQUAL), .val (.int (0 : Int32)), .unset, .unset] [])
    refine own_go (fun t k => XS.iconst X51.here hx rfl (hb hby at_77) k) ?_
    show Go _ _ _ _ _ T51 (mkF m 78 #[.val (.int p1), .val (.ref b35), .val (.int (0 : Int32)), .val (.ref w_EQUAL), .val (.int (0 : Int32)), .unset, .unset] [(.int (0 : Int32))])
    refine own_go (fun t k => XS.istore X51.here hx rfl (hb hby at_78) rfl (l' := #[.val (.int p1), .val (.ref b35), .val (.int (0 : Int32)), .val (.ref w_EQUAL), .val (.int (0 : Int32)), .val (.int (0 : Int32)), .unset]) rfl k) ?_
    show Go _ _ _ _ _ T51 (mkF m 80 #[.val (.int p1), .val (.ref b35), .val (.int (0 : Int32)), .val (.ref w_EQUAL), .val (.int (0 : Int32)), .val (.int (0 : Int32)), .unset] [])
    refine own_go (fun t k => XS.iloadN X51.here hx rfl (hb hby at_80) rfl k) ?_
    show Go _ _ _ _ _ T51 (mkF m 81 #[.val (.int p1), .val (.ref b35), .val (.int (0 : Int32)), .val (.ref w_EQUAL), .val (.int (0 : Int32)), .val (.int (0 : Int32)), .unset] [(.int (0 : Int32))])
    refine own_go (fun t k => XS.iconst X51.here hx rfl (hb hby at_81) k) ?_
    show Go _ _ _ _ _ T51 (mkF m 82 #[.val (.int p1), .val (.ref b35), .val (.int (0 : Int32)), .val (.ref w_EQUAL), .val (.int (0 : Int32)), .val (.int (0 : Int32)), .unset] [(.int (2 : Int32)), (.int (0 : Int32))])
    refine own_go (fun t k => XS.icmpYes X51.here hx rfl (pc0 := 82) (pc' := 89) rfl (hb hby at_82) rfl (by decide) (by decide) (by decide) k) ?_
    show Go _ _ _ _ _ T51 (mkF m 89 #[.val (.int p1), .val (.ref b35), .val (.int (0 : Int32)), .val (.ref w_EQUAL), .val (.int (0 : Int32)), .val (.int (0 : Int32)), .unset] [])
    refine own_go (fun t k => XS.iconst X51.here hx rfl (hb hby at_89) k) ?_
    show Go _ _ _ _ _ T51 (mkF m 90 #[.val (.int p1), .val (.ref b35), .val (.int (0 : Int32)), .val (.ref w_EQUAL), .val (.int (0 : Int32)), .val (.int (0 : Int32)), .unset] [(.int (0 : Int32))])
    refine own_go (fun t k => XS.istore X51.here hx rfl (hb hby at_90) rfl (l' := #[.val (.int p1), .val (.ref b35), .val (.int (0 : Int32)), .val (.ref w_EQUAL), .val (.int (0 : Int32)), .val (.int (0 : Int32)), .val (.int (0 : Int32))]) rfl k) ?_
    show Go _ _ _ _ _ T51 (mkF m 92 #[.val (.int p1), .val (.ref b35), .val (.int (0 : Int32)), .val (.ref w_EQUAL), .val (.int (0 : Int32)), .val (.int (0 : Int32)), .val (.int (0 : Int32))] [])
    refine own_go (fun t k => XS.iload X51.here hx rfl (hb hby at_92) rfl k) ?_
    show Go _ _ _ _ _ T51 (mkF m 94 #[.val (.int p1), .val (.ref b35), .val (.int (0 : Int32)), .val (.ref w_EQUAL), .val (.int (0 : Int32)), .val (.int (0 : Int32)), .val (.int (0 : Int32))] [(.int (0 : Int32))])
    refine own_go (fun t k => XS.iload X51.here hx rfl (hb hby at_94) rfl k) ?_
    show Go _ _ _ _ _ T51 (mkF m 96 #[.val (.int p1), .val (.ref b35), .val (.int (0 : Int32)), .val (.ref w_EQUAL), .val (.int (0 : Int32)), .val (.int (0 : Int32)), .val (.int (0 : Int32))] [(.int (0 : Int32)), (.int (0 : Int32))])
    refine own_go (fun t k => XS.icmpNo X51.here hx rfl (hb hby at_96) rfl (by decide) k) ?_
    show Go _ _ _ _ _ T51 (mkF m 99 #[.val (.int p1), .val (.ref b35), .val (.int (0 : Int32)), .val (.ref w_EQUAL), .val (.int (0 : Int32)), .val (.int (0 : Int32)), .val (.int (0 : Int32))] [])
    refine own_go (fun t k => XS.iload X51.here hx rfl (hb hby at_99) rfl k) ?_
    show Go _ _ _ _ _ T51 (mkF m 101 #[.val (.int p1), .val (.ref b35), .val (.int (0 : Int32)), .val (.ref w_EQUAL), .val (.int (0 : Int32)), .val (.int (0 : Int32)), .val (.int (0 : Int32))] [(.int (0 : Int32))])
    refine own_go (fun t k => XS.iload X51.here hx rfl (hb hby at_101) rfl k) ?_
    show Go _ _ _ _ _ T51 (mkF m 103 #[.val (.int p1), .val (.ref b35), .val (.int (0 : Int32)), .val (.ref w_EQUAL), .val (.int (0 : Int32)), .val (.int (0 : Int32)), .val (.int (0 : Int32))] [(.int (0 : Int32)), (.int (0 : Int32))])
    refine own_go (fun t k => XS.icmpNo X51.here hx rfl (hb hby at_103) rfl (by decide) k) ?_
    show Go _ _ _ _ _ T51 (mkF m 106 #[.val (.int p1), .val (.ref b35), .val (.int (0 : Int32)), .val (.ref w_EQUAL), .val (.int (0 : Int32)), .val (.int (0 : Int32)), .val (.int (0 : Int32))] [])
    refine own_go (fun t k => XS.iconst X51.here hx rfl (hb hby at_106) k) ?_
    show Go _ _ _ _ _ T51 (mkF m 107 #[.val (.int p1), .val (.ref b35), .val (.int (0 : Int32)), .val (.ref w_EQUAL), .val (.int (0 : Int32)), .val (.int (0 : Int32)), .val (.int (0 : Int32))] [(.int (1 : Int32))])
    refine own_go (fun t k => XS.goto X51.here hx rfl (pc0 := 107) (pc' := 111) rfl (hb hby at_107) (by decide) (by decide) k) ?_
    show Go _ _ _ _ _ T51 (mkF m 111 #[.val (.int p1), .val (.ref b35), .val (.int (0 : Int32)), .val (.ref w_EQUAL), .val (.int (0 : Int32)), .val (.int (0 : Int32)), .val (.int (0 : Int32))] [(.int (1 : Int32))])
    refine own_retN X51 hx (own_lvN X51 hlk (by decide) (by decide)) (t := .boolean) hret (by simp) (hb hby at_111) ?_
    exact ⟨rfl, N51⟩
  · skip
    show Go _ _ _ _ _ T47 (mkF m 50 #[.val (.int p1), .val (.ref b35), .val (.int (1 : Int32)), .unset, .unset, .unset, .unset] [])
    refine own_go (fun t k => XS.aloadN X47.here hx rfl (hb hby at_50) rfl rfl k) ?_
    show Go _ _ _ _ _ T47 (mkF m 51 #[.val (.int p1), .val (.ref b35), .val (.int (1 : Int32)), .unset, .unset, .unset, .unset] [(.ref b35)])
    refine own_go (fun t k => XS.iloadN X47.here hx rfl (hb hby at_51) rfl k) ?_
    show Go _ _ _ _ _ T47 (mkF m 52 #[.val (.int p1), .val (.ref b35), .val (.int (1 : Int32)), .unset, .unset, .unset, .unset] [(.int (1 : Int32)), (.ref b35)])
    obtain ⟨cl52, Ar52, q52, S52, N52z, H52, G52⟩ := id V47
    have hin52 := inb_of S52 (j := (1 : Int32)) (z := (6 : Int32)) ⟨by decide, by decide⟩
    have hat52 : cl52.slots[((1 : Int32)).toNatClampNeg]? = some (.ref w_NOT_EQUAL) := H52 _ (Nat.lt_of_not_le fun q => hin52 (Or.inr q))
    refine own_go (fun t k => X47.aaload hx (j := (1 : Int32)) (v := (.ref w_NOT_EQUAL)) (by rw [e47]; exact Ar52.1) (State.isArrayOf_alike hZ.alike Ar52.2.1) rfl Ar52.2.2 hin52 hat52 (g := (mkF m 52 #[.val (.int p1), .val (.ref b35), .val (.int (1 : Int32)), .unset, .unset, .unset, .unset] [(.int (1 : Int32)), (.ref b35)])) rfl rfl (hb hby at_52) _ k) ?_
    show Go _ _ _ _ _ T47 (mkF m 53 #[.val (.int p1), .val (.ref b35), .val (.int (1 : Int32)), .unset, .unset, .unset, .unset] [(.ref w_NOT_EQUAL)])
    refine own_go (fun t k => XS.astoreN X47.here hx rfl (hb hby at_53) rfl rfl (l' := #[.val (.int p1), .val (.ref b35), .val (.int (1 : Int32)), .val (.ref w_NOT_EQUAL), .unset, .unset, .unset]) rfl k) ?_
    show Go _ _ _ _ _ T47 (mkF m 54 #[.val (.int p1), .val (.ref b35), .val (.int (1 : Int32)), .val (.ref w_NOT_EQUAL), .unset, .unset, .unset] [])
    refine own_go (fun t k => XS.aloadN X47.here hx rfl (hb hby at_54) rfl rfl k) ?_
    show Go _ _ _ _ _ T47 (mkF m 55 #[.val (.int p1), .val (.ref b35), .val (.int (1 : Int32)), .val (.ref w_NOT_EQUAL), .unset, .unset, .unset] [(.ref w_NOT_EQUAL)])
    refine own_callV X47 hx hZ (y := (⟨"com/example/tallyfold/tallyfold/expr/ComparisonOperator", "ordersValues", "()Z"⟩ : MethodName)) hown (hw _ (List.mem_of_getElem? (i := 17) rfl)) (hw _ (List.mem_of_getElem? (i := 18) rfl)) (hw _ (List.mem_of_getElem? (i := 20) rfl)) (hw _ (List.mem_of_getElem? (i := 19) rfl)) (hw _ (List.mem_of_getElem? (i := 21) rfl)) (hw _ (List.mem_of_getElem? (i := 3) rfl)) (by decide) (rm1 l Z a0 hw [] w_NOT_EQUAL w_EQUAL w_NOT_EQUAL w_LESS w_LESS_OR_EQUAL w_GREATER w_GREATER_OR_EQUAL (0 : Int32) h47 n0 hn47 S_EQUAL S_NOT_EQUAL S_LESS S_LESS_OR_EQUAL S_GREATER S_GREATER_OR_EQUAL (by rw [own_f_rm1, if_neg (fun q => D_w_EQUAL_w_NOT_EQUAL q.symm), if_pos (show w_NOT_EQUAL = w_NOT_EQUAL from rfl)]; try first | rfl | decide)) e47 E_NOT_EQUAL (by rw [hml]; rfl) (argsL := []) (rest := []) rfl rfl (lenOf own_pd1 rfl) (W := 0) (Nat.le_of_eq rfl) (by decide) (by decide) (hb hby at_55) (by decide) (by decide) ?_
    intro v53 T53 L53 X53 q53
    obtain ⟨rfl, N53q, e53⟩ := q53
    have N53 := Fr.app N47 N53q
    show Go _ _ _ _ _ T53 (mkF m 58 #[.val (.int p1), .val (.ref b35), .val (.int (1 : Int32)), .val (.ref w_NOT_EQUAL), .unset, .unset, .unset] [(.int (0 : Int32))])
    refine own_go (fun t k => XS.istore X53.here hx rfl (hb hby at_58) rfl (l' := #[.val (.int p1), .val (.ref b35), .val (.int (1 : Int32)), .val (.ref w_NOT_EQUAL), .val (.int (0 : Int32)), .unset, .unset]) rfl k) ?_
    show Go _ _ _ _ _ T53 (mkF m 60 #[.val (.int p1), .val (.ref b35), .val (.int (1 : Int32)), .val (.ref w_NOT_EQUAL), .val (.int (0 : Int32)), .unset, .unset] [])
    refine own_go (fun t k => XS.aloadN X53.here hx rfl (hb hby at_60) rfl rfl k) ?_
    show Go _ _ _ _ _ T53 (mkF m 61 #[.val (.int p1), .val (.ref b35), .val (.int (1 : Int32)), .val (.ref w_NOT_EQUAL), .val (.int (0 : Int32)), .unset, .unset] [(.ref w_NOT_EQUAL)])
    refine own_go (fun t k => XS.iconst X53.here hx rfl (hb hby at_61) k) ?_
    show Go _ _ _ _ _ T53 (mkF m 62 #[.val (.int p1), .val (.ref b35), .val (.int (1 : Int32)), .val (.ref w_NOT_EQUAL), .val (.int (0 : Int32)), .unset, .unset] [(.int (-1 : Int32)), (.ref w_NOT_EQUAL)])
    refine own_callV X53 hx hZ (y := (⟨"com/example/tallyfold/tallyfold/expr/ComparisonOperator", "holds", "(I)Z"⟩ : MethodName)) hown (hw _ (List.mem_of_getElem? (i := 23) rfl)) (hw _ (List.mem_of_getElem? (i := 24) rfl)) (hw _ (List.mem_of_getElem? (i := 26) rfl)) (hw _ (List.mem_of_getElem? (i := 25) rfl)) (hw _ (List.mem_of_getElem? (i := 27) rfl)) (hw _ (List.mem_of_getElem? (i := 3) rfl)) (by decide) (rm_holds_1 l Z a0 hw [] w_NOT_EQUAL (-1 : Int32) (1 : Int32) h47 n0 hn47 E_NOT_EQUAL O_NOT_EQUAL_ordinal (by rw [own_f_rm_holds_1, if_neg (show ¬ ((-1 : Int32) = (0 : Int32)) by decide)]; try first | rfl | decide)) e53 E_NOT_EQUAL (by rw [hml]; rfl) (argsL := [(.int (-1 : Int32))]) (rest := []) rfl rfl (lenOf own_pd2 rfl) (W := 0) (Nat.le_of_eq rfl) (by decide) (by decide) (hb hby at_62) (by decide) (by decide) ?_
    intro v54 T54 L54 X54 q54
    obtain ⟨rfl, N54q, e54⟩ := q54
    have N54 := Fr.app N53 N54q
    show Go _ _ _ _ _ T54 (mkF m 65 #[.val (.int p1), .val (.ref b35), .val (.int (1 : Int32)), .val (.ref w_NOT_EQUAL), .val (.int (0 : Int32)), .unset, .unset] [(.int (1 : Int32))])
    refine own_go (fun t k => XS.aloadN X54.here hx rfl (hb hby at_65) rfl rfl k) ?_
    show Go _ _ _ _ _ T54 (mkF m 66 #[.val (.int p1), .val (.ref b35), .val (.int (1 : Int32)), .val (.ref w_NOT_EQUAL), .val (.int (0 : Int32)), .unset, .unset] [(.ref w_NOT_EQUAL), (.int (1 : Int32))])
    refine own_go (fun t k => XS.iconst X54.here hx rfl (hb hby at_66) k) ?_
    show Go _ _ _ _ _ T54 (mkF m 67 #[.val (.int p1), .val (.ref b35), .val (.int (1 : Int32)), .val (.ref w_NOT_EQUAL), .val (.int (0 : Int32)), .unset, .unset] [(.int (1 : Int32)), (.ref w_NOT_EQUAL), (.int (1 : Int32))])
    refine own_callV X54 hx hZ (y := (⟨"com/example/tallyfold/tallyfold/expr/ComparisonOperator", "holds", "(I)Z"⟩ : MethodName)) hown (hw _ (List.mem_of_getElem? (i := 23) rfl)) (hw _ (List.mem_of_getElem? (i := 24) rfl)) (hw _ (List.mem_of_getElem? (i := 26) rfl)) (hw _ (List.mem_of_getElem? (i := 25) rfl)) (hw _ (List.mem_of_getElem? (i := 27) rfl)) (hw _ (List.mem_of_getElem? (i := 3) rfl)) (by decide) (rm_holds_1 l Z a0 hw [] w_NOT_EQUAL (1 : Int32) (1 : Int32) h47 n0 hn47 E_NOT_EQUAL O_NOT_EQUAL_ordinal (by rw [own_f_rm_holds_1, if_neg (show ¬ ((1 : Int32) = (0 : Int32)) by decide)]; try first | rfl | decide)) e54 E_NOT_EQUAL (by rw [hml]; rfl) (argsL := [(.int (1 : Int32))]) (rest := [(.int (1 : Int32))]) rfl rfl (lenOf own_pd2 rfl) (W := 1) (Nat.le_of_eq rfl) (by decide) (by decide) (hb hby at_67) (by decide) (by decide) ?_
    intro v55 T55 L55 X55 q55
    obtain ⟨rfl, N55q, e55⟩ := q55
    have N55 := Fr.app N54 N55q
    show Go _ _ _ _ _ T55 (mkF m 70 #[.val (.int p1), .val (.ref b35), .val (.int (1 : Int32)), .val (.ref w_NOT_EQUAL), .val (.int (0 : Int32)), .unset, .unset] [(.int (1 : Int32)), (.int (1 : Int32))])
    refine own_go (fun t k => XS.icmpYes X55.here hx rfl (pc0 := 70) (pc' := 77) rfl (hb hby at_70) rfl (by decide) (by decide) (by decide) k) ?_
    show Go _ _ _ _ _ T55 (mkF m 77 #[.val (.int p1), .val (.ref b35), .val (.int (1 : Int32)), .val (.ref w_NOT_EQUAL), .val (.int (0 : Int32)), .unset, .unset] [])
    refine own_go (fun t k => XS.iconst X55.here hx rfl (hb hby at_77) k) ?_
    show Go _ _ _ _ _ T55 (mkF m 78 #[.val (.int p1), .val (.ref b35), .val (.int (1 : Int32)), .val (.ref w_NOT_EQUAL), .val (.int (0 : Int32)), .unset, .unset] [(.int (0 : Int32))])
    refine own_go (fun t k => XS.istore X55.here hx rfl (hb hby at_78) rfl (l' := #[.val (.int p1), .val (.ref b35), .val (.int (1 : Int32)), .val (.ref w_NOT_EQUAL), .val (.int (0 : Int32)), .val (.int (0 : Int32)), .unset]) rfl k) ?_
    show Go _ _ _ _ _ T55 (mkF m 80 #[.val (.int p1), .val (.ref b35), .val (.int (1 : Int32)), .val (.ref w_NOT_EQUAL), .val (.int (0 : Int32)), .val (.int (0 : Int32)), .unset] [])
    refine own_go (fun t k => XS.iloadN X55.here hx rfl (hb hby at_80) rfl k) ?_
    show Go _ _ _ _ _ T55 (mkF m 81 #[.val (.int p1), .val (.ref b35), .val (.int (1 : Int32)), .val (.ref w_NOT_EQUAL), .val (.int (0 : Int32)), .val (.int (0 : Int32)), .unset] [(.int (1 : Int32))])
    refine own_go (fun t k => XS.iconst X55.here hx rfl (hb hby at_81) k) ?_
    show Go _ _ _ _ _ T55 (mkF m 82 #[.val (.int p1), .val (.ref b35), .val (.int (1 : Int32)), .val (.ref w_NOT_EQUAL), .val (.int (0 : Int32)), .val (.int (0 : Int32)), .unset] [(.int (2 : Int32)), (.int (1 : Int32))])
    refine own_go (fun t k => XS.icmpYes X55.here hx rfl (pc0 := 82) (pc' := 89) rfl (hb hby at_82) rfl (by decide) (by decide) (by decide) k) ?_
    show Go _ _ _ _ _ T55 (mkF m 89 #[.val (.int p1), .val (.ref b35), .val (.int (1 : Int32)), .val (.ref w_NOT_EQUAL), .val (.int (0 : Int32)), .val (.int (0 : Int32)), .unset] [])
    refine own_go (fun t k => XS.iconst X55.here hx rfl (hb hby at_89) k) ?_
    show Go _ _ _ _ _ T55 (mkF m 90 #[.val (.int p1), .val (.ref b35), .val (.int (1 : Int32)), .val (.ref w_NOT_EQUAL), .val (.int (0 : Int32)), .val (.int (0 : Int32)), .unset] [(.int (0 : Int32))])
    refine own_go (fun t k => XS.istore X55.here hx rfl (hb hby at_90) rfl (l' := #[.val (.int p1), .val (.ref b35), .val (.int (1 : Int32)), .val (.ref w_NOT_EQUAL), .val (.int (0 : Int32)), .val (.int (0 : Int32)), .val (.int (0 : Int32))]) rfl k) ?_
    show Go _ _ _ _ _ T55 (mkF m 92 #[.val (.int p1), .val (.ref b35), .val (.int (1 : Int32)), .val (.ref w_NOT_EQUAL), .val (.int (0 : Int32)), .val (.int (0 : Int32)), .val (.int (0 : Int32))] [])
    refine own_go (fun t k => XS.iload X55.here hx rfl (hb hby at_92) rfl k) ?_
    show Go _ _ _ _ _ T55 (mkF m 94 #[.val (.int p1), .val (.ref b35), .val (.int (1 : Int32)), .val (.ref w_NOT_EQUAL), .val (.int (0 : Int32)), .val (.int (0 : Int32)), .val (.int (0 : Int32))] [(.int (0 : Int32))])
    refine own_go (fun t k => XS.iload X55.here hx rfl (hb hby at_94) rfl k) ?_
    show Go _ _ _ _ _ T55 (mkF m 96 #[.val (.int p1), .val (.ref b35), .val (.int (1 : Int32)), .val (.ref w_NOT_EQUAL), .val (.int (0 : Int32)), .val (.int (0 : Int32)), .val (.int (0 : Int32))] [(.int (0 : Int32)), (.int (0 : Int32))])
    refine own_go (fun t k => XS.icmpNo X55.here hx rfl (hb hby at_96) rfl (by decide) k) ?_
    show Go _ _ _ _ _ T55 (mkF m 99 #[.val (.int p1), .val (.ref b35), .val (.int (1 : Int32)), .val (.ref w_NOT_EQUAL), .val (.int (0 : Int32)), .val (.int (0 : Int32)), .val (.int (0 : Int32))] [])
    refine own_go (fun t k => XS.iload X55.here hx rfl (hb hby at_99) rfl k) ?_
    show Go _ _ _ _ _ T55 (mkF m 101 #[.val (.int p1), .val (.ref b35), .val (.int (1 : Int32)), .val (.ref w_NOT_EQUAL), .val (.int (0 : Int32)), .val (.int (0 : Int32)), .val (.int (0 : Int32))] [(.int (0 : Int32))])
    refine own_go (fun t k => XS.iload X55.here hx rfl (hb hby at_101) rfl k) ?_
    show Go _ _ _ _ _ T55 (mkF m 103 #[.val (.int p1), .val (.ref b35), .val (.int (1 : Int32)), .val (.ref w_NOT_EQUAL), .val (.int (0 : Int32)), .val (.int (0 : Int32)), .val (.int (0 : Int32))] [(.int (0 : Int32)), (.int (0 : Int32))])
    refine own_go (fun t k => XS.icmpNo X55.here hx rfl (hb hby at_103) rfl (by decide) k) ?_
    show Go _ _ _ _ _ T55 (mkF m 106 #[.val (.int p1), .val (.ref b35), .val (.int (1 : Int32)), .val (.ref w_NOT_EQUAL), .val (.int (0 : Int32)), .val (.int (0 : Int32)), .val (.int (0 : Int32))] [])
    refine own_go (fun t k => XS.iconst X55.here hx rfl (hb hby at_106) k) ?_
    show Go _ _ _ _ _ T55 (mkF m 107 #[.val (.int p1), .val (.ref b35), .val (.int (1 : Int32)), .val (.ref w_NOT_EQUAL), .val (.int (0 : Int32)), .val (.int (0 : Int32)), .val (.int (0 : Int32))] [(.int (1 : Int32))])
    refine own_go (fun t k => XS.goto X55.here hx rfl (pc0 := 107) (pc' := 111) rfl (hb hby at_107) (by decide) (by decide) k) ?_
    show Go _ _ _ _ _ T55 (mkF m 111 #[.val (.int p1), .val (.ref b35), .val (.int (1 : Int32)), .val (.ref w_NOT_EQUAL), .val (.int (0 : Int32)), .val (.int (0 : Int32)), .val (.int (0 : Int32))] [(.int (1 : Int32))])
    refine own_retN X55 hx (own_lvN X55 hlk (by decide) (by decide)) (t := .boolean) hret (by simp) (hb hby at_111) ?_
    exact ⟨rfl, N55⟩
  · skip
    show Go _ _ _ _ _ T47 (mkF m 50 #[.val (.int p1), .val (.ref b35), .val (.int (2 : Int32)), .unset, .unset, .unset, .unset] [])
    refine own_go (fun t k => XS.aloadN X47.here hx rfl (hb hby at_50) rfl rfl k) ?_
    show Go _ _ _ _ _ T47 (mkF m 51 #[.val (.int p1), .val (.ref b35), .val (.int (2 : Int32)), .unset, .unset, .unset, .unset] [(.ref b35)])
    refine own_go (fun t k => XS.iloadN X47.here hx rfl (hb hby at_51) rfl k) ?_
    show Go _ _ _ _ _ T47 (mkF m 52 #[.val (.int p1), .val (.ref b35), .val (.int (2 : Int32)), .unset, .unset, .unset, .unset] [(.int (2 : Int32)), (.ref b35)])
    obtain ⟨cl56, Ar56, q56, S56, N56z, H56, G56⟩ := id V47
    have hin56 := inb_of S56 (j := (2 : Int32)) (z := (6 : Int32)) ⟨by decide, by decide⟩
    have hat56 : cl56.slots[((2 : Int32)).toNatClampNeg]? = some (.ref w_LESS) := H56 _ (Nat.lt_of_not_le fun q => hin56 (Or.inr q))
    refine own_go (fun t k => X47.aaload hx (j := (2 : Int32)) (v := (.ref w_LESS)) (by rw [e47]; exact Ar56.1) (State.isArrayOf_alike hZ.alike Ar56.2.1) rfl Ar56.2.2 hin56 hat56 (g := (mkF m 52 #[.val (.int p1), .val (.ref b35), .val (.int (2 : Int32)), .unset, .unset, .unset, .unset] [(.int (2 : Int32)), (.ref b35)])) rfl rfl (hb hby at_52) _ k) ?_
    show Go _ _ _ _ _ T47 (mkF m 53 #[.val (.int p1), .val (.ref b35), .val (.int (2 : Int32)), .unset, .unset, .unset, .unset] [(.ref w_LESS)])
    refine own_go (fun t k => XS.astoreN X47.here hx rfl (hb hby at_53) rfl rfl (l' := #[.val (.int p1), .val (.ref b35), .val (.int (2 : Int32)), .val (.ref w_LESS), .unset, .unset, .unset]) rfl k) ?_
    show Go _ _ _ _ _ T47 (mkF m 54 #[.val (.int p1), .val (.ref b35), .val (.int (2 : Int32)), .val (.ref w_LESS), .unset, .unset, .unset] [])
    refine own_go (fun t k => XS.aloadN X47.here hx rfl (hb hby at_54) rfl rfl k) ?_
    show Go _ _ _ _ _ T47 (mkF m 55 #[.val (.int p1), .val (.ref b35), .val (.int (2 : Int32)), .val (.ref w_LESS), .unset, .unset, .unset] [(.ref w_LESS)])
    refine own_callV X47 hx hZ (y := (⟨"com/example/tallyfold/tallyfold/expr/ComparisonOperator", "ordersValues", "()Z"⟩ : MethodName)) hown (hw _ (List.mem_of_getElem? (i := 17) rfl)) (hw _ (List.mem_of_getElem? (i := 18) rfl)) (hw _ (List.mem_of_getElem? (i := 20) rfl)) (hw _ (List.mem_of_getElem? (i := 19) rfl)) (hw _ (List.mem_of_getElem? (i := 21) rfl)) (hw _ (List.mem_of_getElem? (i := 3) rfl)) (by decide) (rm1 l Z a0 hw [] w_LESS w_EQUAL w_NOT_EQUAL w_LESS w_LESS_OR_EQUAL w_GREATER w_GREATER_OR_EQUAL (1 : Int32) h47 n0 hn47 S_EQUAL S_NOT_EQUAL S_LESS S_LESS_OR_EQUAL S_GREATER S_GREATER_OR_EQUAL (by rw [own_f_rm1, if_neg (fun q => D_w_EQUAL_w_LESS q.symm), if_neg (fun q => D_w_NOT_EQUAL_w_LESS q.symm)]; try first | rfl | decide)) e47 E_LESS (by rw [hml]; rfl) (argsL := []) (rest := []) rfl rfl (lenOf own_pd1 rfl) (W := 0) (Nat.le_of_eq rfl) (by decide) (by decide) (hb hby at_55) (by decide) (by decide) ?_
    intro v57 T57 L57 X57 q57
    obtain ⟨rfl, N57q, e57⟩ := q57
    have N57 := Fr.app N47 N57q
    show Go _ _ _ _ _ T57 (mkF m 58 #[.val (.int p1), .val (.ref b35), .val (.int (2 : Int32)), .val (.ref w_LESS), .unset, .unset, .unset] [(.int (1 : Int32))])
    refine own_go (fun t k => XS.istore X57.here hx rfl (hb hby at_58) rfl (l' := #[.val (.int p1), .val (.ref b35), .val (.int (2 : Int32)), .val (.ref w_LESS), .val (.int (1 : Int32)), .unset, .unset]) rfl k) ?_
    show Go _ _ _ _ _ T57 (mkF m 60 #[.val (.int p1), .val (.ref b35), .val (.int (2 : Int32)), .val (.ref w_LESS), .val (.int (1 : Int32)), .unset, .unset] [])
    refine own_go (fun t k => XS.aloadN X57.here hx rfl (hb hby at_60) rfl rfl k) ?_
    show Go _ _ _ _ _ T57 (mkF m 61 #[.val (.int p1), .val (.ref b35), .val (.int (2 : Int32)), .val (.ref w_LESS), .val (.int (1 : Int32)), .unset, .unset] [(.ref w_LESS)])
    refine own_go (fun t k => XS.iconst X57.here hx rfl (hb hby at_61) k) ?_
    show Go _ _ _ _ _ T57 (mkF m 62 #[.val (.int p1), .val (.ref b35), .val (.int (2 : Int32)), .val (.ref w_LESS), .val (.int (1 : Int32)), .unset, .unset] [(.int (-1 : Int32)), (.ref w_LESS)])
    refine own_callV X57 hx hZ (y := (⟨"com/example/tallyfold/tallyfold/expr/ComparisonOperator", "holds", "(I)Z"⟩ : MethodName)) hown (hw _ (List.mem_of_getElem? (i := 23) rfl)) (hw _ (List.mem_of_getElem? (i := 24) rfl)) (hw _ (List.mem_of_getElem? (i := 26) rfl)) (hw _ (List.mem_of_getElem? (i := 25) rfl)) (hw _ (List.mem_of_getElem? (i := 27) rfl)) (hw _ (List.mem_of_getElem? (i := 3) rfl)) (by decide) (rm_holds_2 l Z a0 hw [] w_LESS (-1 : Int32) (1 : Int32) h47 n0 hn47 E_LESS O_LESS_ordinal (by rw [own_f_rm_holds_2, if_pos (show (-1 : Int32) < (0 : Int32) by decide)]; try first | rfl | decide)) e57 E_LESS (by rw [hml]; rfl) (argsL := [(.int (-1 : Int32))]) (rest := []) rfl rfl (lenOf own_pd2 rfl) (W := 0) (Nat.le_of_eq rfl) (by decide) (by decide) (hb hby at_62) (by decide) (by decide) ?_
    intro v58 T58 L58 X58 q58
    obtain ⟨rfl, N58q, e58⟩ := q58
    have N58 := Fr.app N57 N58q
    show Go _ _ _ _ _ T58 (mkF m 65 #[.val (.int p1), .val (.ref b35), .val (.int (2 : Int32)), .val (.ref w_LESS), .val (.int (1 : Int32)), .unset, .unset] [(.int (1 : Int32))])
    refine own_go (fun t k => XS.aloadN X58.here hx rfl (hb hby at_65) rfl rfl k) ?_
    show Go _ _ _ _ _ T58 (mkF m 66 #[.val (.int p1), .val (.ref b35), .val (.int (2 : Int32)), .val (.ref w_LESS), .val (.int (1 : Int32)), .unset, .unset] [(.ref w_LESS), (.int (1 : Int32))])
    refine own_go (fun t k => XS.iconst X58.here hx rfl (hb hby at_66) k) ?_
    show Go _ _ _ _ _ T58 (mkF m 67 #[.val (.int p1), .val (.ref b35), .val (.int (2 : Int32)), .val (.ref w_LESS), .val (.int (1 : Int32)), .unset, .unset] [(.int (1 : Int32)), (.ref w_LESS), (.int (1 : Int32))])
    refine own_callV X58 hx hZ (y := (⟨"com/example/tallyfold/tallyfold/expr/ComparisonOperator", "holds", "(I)Z"⟩ : MethodName)) hown (hw _ (List.mem_of_getElem? (i := 23) rfl)) (hw _ (List.mem_of_getElem? (i := 24) rfl)) (hw _ (List.mem_of_getElem? (i := 26) rfl)) (hw _ (List.mem_of_getElem? (i := 25) rfl)) (hw _ (List.mem_of_getElem? (i := 27) rfl)) (hw _ (List.mem_of_getElem? (i := 3) rfl)) (by decide) (rm_holds_2 l Z a0 hw [] w_LESS (1 : Int32) (0 : Int32) h47 n0 hn47 E_LESS O_LESS_ordinal (by rw [own_f_rm_holds_2, if_neg (show ¬ ((1 : Int32) < (0 : Int32)) by decide)]; try first | rfl | decide)) e58 E_LESS (by rw [hml]; rfl) (argsL := [(.int (1 : Int32))]) (rest := [(.int (1 : Int32))]) rfl rfl (lenOf own_pd2 rfl) (W := 1) (Nat.le_of_eq rfl) (by decide) (by decide) (hb hby at_67) (by decide) (by decide) ?_
    intro v59 T59 L59 X59 q59
    obtain ⟨rfl, N59q, e59⟩ := q59
    have N59 := Fr.app N58 N59q
    show Go _ _ _ _ _ T59 (mkF m 70 #[.val (.int p1), .val (.ref b35), .val (.int (2 : Int32)), .val (.ref w_LESS), .val (.int (1 : Int32)), .unset, .unset] [(.int (0 : Int32)), (.int (1 : Int32))])
    refine own_go (fun t k => XS.icmpNo X59.here hx rfl (hb hby at_70) rfl (by decide) k) ?_
    show Go _ _ _ _ _ T59 (mkF m 73 #[.val (.int p1), .val (.ref b35), .val (.int (2 : Int32)), .val (.ref w_LESS), .val (.int (1 : Int32)), .unset, .unset] [])
    refine own_go (fun t k => XS.iconst X59.here hx rfl (hb hby at_73) k) ?_
    show Go _ _ _ _ _ T59 (mkF m 74 #[.val (.int p1), .val (.ref b35), .val (.int (2 : Int32)), .val (.ref w_LESS), .val (.int (1 : Int32)), .unset, .unset] [(.int (1 : Int32))])
    refine own_go (fun t k => XS.goto X59.here hx rfl (pc0 := 74) (pc' := 78) rfl (hb hby at_74) (by decide) (by decide) k) ?_
    show Go _ _ _ _ _ T59 (mkF m 78 #[.val (.int p1), .val (.ref b35), .val (.int (2 : Int32)), .val (.ref w_LESS), .val (.int (1 : Int32)), .unset, .unset] [(.int (1 : Int32))])
    refine own_go (fun t k => XS.istore X59.here hx rfl (hb hby at_78) rfl (l' := #[.val (.int p1), .val (.ref b35), .val (.int (2 : Int32)), .val (.ref w_LESS), .val (.int (1 : Int32)), .val (.int (1 : Int32)), .unset]) rfl k) ?_
    show Go _ _ _ _ _ T59 (mkF m 80 #[.val (.int p1), .val (.ref b35), .val (.int (2 : Int32)), .val (.ref w_LESS), .val (.int (1 : Int32)), .val (.int (1 : Int32)), .unset] [])
    refine own_go (fun t k => XS.iloadN X59.here hx rfl (hb hby at_80) rfl k) ?_
    show Go _ _ _ _ _ T59 (mkF m 81 #[.val (.int p1), .val (.ref b35), .val (.int (2 : Int32)), .val (.ref w_LESS), .val (.int (1 : Int32)), .val (.int (1 : Int32)), .unset] [(.int (2 : Int32))])
    refine own_go (fun t k => XS.iconst X59.here hx rfl (hb hby at_81) k) ?_
    show Go _ _ _ _ _ T59 (mkF m 82 #[.val (.int p1), .val (.ref b35), .val (.int (2 : Int32)), .val (.ref w_LESS), .val (.int (1 : Int32)), .val (.int (1 : Int32)), .unset] [(.int (2 : Int32)), (.int (2 : Int32))])
    refine own_go (fun t k => XS.icmpNo X59.here hx rfl (hb hby at_82) rfl (by decide) k) ?_
    show Go _ _ _ _ _ T59 (mkF m 85 #[.val (.int p1), .val (.ref b35), .val (.int (2 : Int32)), .val (.ref w_LESS), .val (.int (1 : Int32)), .val (.int (1 : Int32)), .unset] [])
    refine own_go (fun t k => XS.iconst X59.here hx rfl (hb hby at_85) k) ?_
    show Go _ _ _ _ _ T59 (mkF m 86 #[.val (.int p1), .val (.ref b35), .val (.int (2 : Int32)), .val (.ref w_LESS), .val (.int (1 : Int32)), .val (.int (1 : Int32)), .unset] [(.int (1 : Int32))])
    refine own_go (fun t k => XS.goto X59.here hx rfl (pc0 := 86) (pc' := 90) rfl (hb hby at_86) (by decide) (by decide) k) ?_
    show Go _ _ _ _ _ T59 (mkF m 90 #[.val (.int p1), .val (.ref b35), .val (.int (2 : Int32)), .val (.ref w_LESS), .val (.int (1 : Int32)), .val (.int (1 : Int32)), .unset] [(.int (1 : Int32))])
    refine own_go (fun t k => XS.istore X59.here hx rfl (hb hby at_90) rfl (l' := #[.val (.int p1), .val (.ref b35), .val (.int (2 : Int32)), .val (.ref w_LESS), .val (.int (1 : Int32)), .val (.int (1 : Int32)), .val (.int (1 : Int32))]) rfl k) ?_
    show Go _ _ _ _ _ T59 (mkF m 92 #[.val (.int p1), .val (.ref b35), .val (.int (2 : Int32)), .val (.ref w_LESS), .val (.int (1 : Int32)), .val (.int (1 : Int32)), .val (.int (1 : Int32))] [])
    refine own_go (fun t k => XS.iload X59.here hx rfl (hb hby at_92) rfl k) ?_
    show Go _ _ _ _ _ T59 (mkF m 94 #[.val (.int p1), .val (.ref b35), .val (.int (2 : Int32)), .val (.ref w_LESS), .val (.int (1 : Int32)), .val (.int (1 : Int32)), .val (.int (1 : Int32))] [(.int (1 : Int32))])
    refine own_go (fun t k => XS.iload X59.here hx rfl (hb hby at_94) rfl k) ?_
    show Go _ _ _ _ _ T59 (mkF m 96 #[.val (.int p1), .val (.ref b35), .val (.int (2 : Int32)), .val (.ref w_LESS), .val (.int (1 : Int32)), .val (.int (1 : Int32)), .val (.int (1 : Int32))] [(.int (1 : Int32)), (.int (1 : Int32))])
    refine own_go (fun t k => XS.icmpNo X59.here hx rfl (hb hby at_96) rfl (by decide) k) ?_
    show Go _ _ _ _ _ T59 (mkF m 99 #[.val (.int p1), .val (.ref b35), .val (.int (2 : Int32)), .val (.ref w_LESS), .val (.int (1 : Int32)), .val (.int (1 : Int32)), .val (.int (1 : Int32))] [])
    refine own_go (fun t k => XS.iload X59.here hx rfl (hb hby at_99) rfl k) ?_
    show Go _ _ _ _ _ T59 (mkF m 101 #[.val (.int p1), .val (.ref b35), .val (.int (2 : Int32)), .val (.ref w_LESS), .val (.int (1 : Int32)), .val (.int (1 : Int32)), .val (.int (1 : Int32))] [(.int (1 : Int32))])
    refine own_go (fun t k => XS.iload X59.here hx rfl (hb hby at_101) rfl k) ?_
    show Go _ _ _ _ _ T59 (mkF m 103 #[.val (.int p1), .val (.ref b35), .val (.int (2 : Int32)), .val (.ref w_LESS), .val (.int (1 : Int32)), .val (.int (1 : Int32)), .val (.int (1 : Int32))] [(.int (1 : Int32)), (.int (1 : Int32))])
    refine own_go (fun t k => XS.icmpNo X59.here hx rfl (hb hby at_103) rfl (by decide) k) ?_
    show Go _ _ _ _ _ T59 (mkF m 106 #[.val (.int p1), .val (.ref b35), .val (.int (2 : Int32)), .val (.ref w_LESS), .val (.int (1 : Int32)), .val (.int (1 : Int32)), .val (.int (1 : Int32))] [])
    refine own_go (fun t k => XS.iconst X59.here hx rfl (hb hby at_106) k) ?_
    show Go _ _ _ _ _ T59 (mkF m 107 #[.val (.int p1), .val (.ref b35), .val (.int (2 : Int32)), .val (.ref w_LESS), .val (.int (1 : Int32)), .val (.int (1 : Int32)), .val (.int (1 : Int32))] [(.int (1 : Int32))])
    refine own_go (fun t k => XS.goto X59.here hx rfl (pc0 := 107) (pc' := 111) rfl (hb hby at_107) (by decide) (by decide) k) ?_
    show Go _ _ _ _ _ T59 (mkF m 111 #[.val (.int p1), .val (.ref b35), .val (.int (2 : Int32)), .val (.ref w_LESS), .val (.int (1 : Int32)), .val (.int (1 : Int32)), .val (.int (1 : Int32))] [(.int (1 : Int32))])
    refine own_retN X59 hx (own_lvN X59 hlk (by decide) (by decide)) (t := .boolean) hret (by simp) (hb hby at_111) ?_
    exact ⟨rfl, N59⟩
  · skip
    show Go _ _ _ _ _ T47 (mkF m 50 #[.val (.int p1), .val (.ref b35), .val (.int (3 : Int32)), .unset, .unset, .unset, .unset] [])
    refine own_go (fun t k => XS.aloadN X47.here hx rfl (hb hby at_50) rfl rfl k) ?_
    show Go _ _ _ _ _ T47 (mkF m 51 #[.val (.int p1), .val (.ref b35), .val (.int (3 : Int32)), .unset, .unset, .unset, .unset] [(.ref b35)])
    refine own_go (fun t k => XS.iloadN X47.here hx rfl (hb hby at_51) rfl k) ?_
    show Go _ _ _ _ _ T47 (mkF m 52 #[.val (.int p1), .val (.ref b35), .val (.int (3 : Int32)), .unset, .unset, .unset, .unset] [(.int (3 : Int32)), (.ref b35)])
    obtain ⟨cl60, Ar60, q60, S60, N60z, H60, G60⟩ := id V47
    have hin60 := inb_of S60 (j := (3 : Int32)) (z := (6 : Int32)) ⟨by decide, by decide⟩
    have hat60 : cl60.slots[((3 : Int32)).toNatClampNeg]? = some (.ref w_LESS_OR_EQUAL) := H60 _ (Nat.lt_of_not_le fun q => hin60 (Or.inr q))
    refine own_go (fun t k => X47.aaload hx (j := (3 : Int32)) (v := (.ref w_LESS_OR_EQUAL)) (by rw [e47]; exact Ar60.1) (State.isArrayOf_alike hZ.alike Ar60.2.1) rfl Ar60.2.2 hin60 hat60 (g := (mkF m 52 #[.val (.int p1), .val (.ref b35), .val (.int (3 : Int32)), .unset, .unset, .unset, .unset] [(.int (3 : Int32)), (.ref b35)])) rfl rfl (hb hby at_52) _ k) ?_
    show Go _ _ _ _ _ T47 (mkF m 53 #[.val (.int p1), .val (.ref b35), .val (.int (3 : Int32)), .unset, .unset, .unset, .unset] [(.ref w_LESS_OR_EQUAL)])
    refine own_go (fun t k => XS.astoreN X47.here hx rfl (hb hby at_53) rfl rfl (l' := #[.val (.int p1), .val (.ref b35), .val (.int (3 : Int32)), .val (.ref w_LESS_OR_EQUAL), .unset, .unset, .unset]) rfl k) ?_
    show Go _ _ _ _ _ T47 (mkF m 54 #[.val (.int p1), .val (.ref b35), .val (.int (3 : Int32)), .val (.ref w_LESS_OR_EQUAL), .unset, .unset, .unset] [])
    refine own_go (fun t k => XS.aloadN X47.here hx rfl (hb hby at_54) rfl rfl k) ?_
    show Go _ _ _ _ _ T47 (mkF m 55 #[.val (.int p1), .val (.ref b35), .val (.int (3 : Int32)), .val (.ref w_LESS_OR_EQUAL), .unset, .unset, .unset] [(.ref w_LESS_OR_EQUAL)])
    refine own_callV X47 hx hZ (y := (⟨"com/example/tallyfold/tallyfold/expr/ComparisonOperator", "ordersValues", "()Z"⟩ : MethodName)) hown (hw _ (List.mem_of_getElem? (i := 17) rfl)) (hw _ (List.mem_of_getElem? (i := 18) rfl)) (hw _ (List.mem_of_getElem? (i := 20) rfl)) (hw _ (List.mem_of_getElem? (i := 19) rfl)) (hw _ (List.mem_of_getElem? (i := 21) rfl)) (hw _ (List.mem_of_getElem? (i := 3) rfl)) (by decide) (rm1 l Z a0 hw [] w_LESS_OR_EQUAL w_EQUAL w_NOT_EQUAL w_LESS w_LESS_OR_EQUAL w_GREATER w_GREATER_OR_EQUAL (1 : Int32) h47 n0 hn47 S_EQUAL S_NOT_EQUAL S_LESS S_LESS_OR_EQUAL S_GREATER S_GREATER_OR_EQUAL (by rw [own_f_rm1, if_neg (fun q => D_w_EQUAL_w_LESS_OR_EQUAL q.symm), if_neg (fun q => D_w_NOT_EQUAL_w_LESS_OR_EQUAL q.symm)]; try first | rfl | decide)) e47 E_LESS_OR_EQUAL (by rw [hml]; rfl) (argsL := []) (rest := []) rfl rfl (lenOf own_pd1 rfl) (W := 0) (Nat.le_of_eq rfl) (by decide) (by decide) (hb hby at_55) (by decide) (by decide) ?_
    intro v61 T61 L61 X61 q61
    obtain ⟨rfl, N61q, e61⟩ := q61
    have N61 := Fr.app N47 N61q
    show Go _ _ _ _ _ T61 (mkF m 58 #[.val (.int p1), .val (.ref b35), .val (.int (3 : Int32)), .val (.ref w_LESS_OR_EQUAL), .unset, .unset, .unset] [(.int (1 : Int32))])
    refine own_go (fun t k => XS.istore X61.here hx rfl (hb hby at_58) rfl (l' := #[.val (.int p1), .val (.ref b35), .val (.int (3 : Int32)), .val (.ref w_LESS_OR_EQUAL), .val (.int (1 : Int32)), .unset, .unset]) rfl k) ?_
    show Go _ _ _ _ _ T61 (mkF m 60 #[.val (.int p1), .val (.ref b35), .val (.int (3 : Int32)), .val (.ref w_LESS_OR_EQUAL), .val (.int (1 : Int32)), .unset, .unset] [])
    refine own_go (fun t k => XS.aloadN X61.here hx rfl (hb hby at_60) rfl rfl k) ?_
    show Go _ _ _ _ _ T61 (mkF m 61 #[.val (.int p1), .val (.ref b35), .val (.int (3 : Int32)), .val (.ref w_LESS_OR_EQUAL), .val (.int (1 : Int32)), .unset, .unset] [(.ref w_LESS_OR_EQUAL)])
    refine own_go (fun t k => XS.iconst X61.here hx rfl (hb hby at_61) k) ?_
    show Go _ _ _ _ _ T61 (mkF m 62 #[.val (.int p1), .val (.ref b35), .val (.int (3 : Int32)), .val (.ref w_LESS_OR_EQUAL), .val (.int (1 : Int32)), .unset, .unset] [(.int (-1 : Int32)), (.ref w_LESS_OR_EQUAL)])
    refine own_callV X61 hx hZ (y := (⟨"com/example/tallyfold/tallyfold/expr/ComparisonOperator", "holds", "(I)Z"⟩ : MethodName)) hown (hw _ (List.mem_of_getElem? (i := 23) rfl)) (hw _ (List.mem_of_getElem? (i := 24) rfl)) (hw _ (List.mem_of_getElem? (i := 26) rfl)) (hw _ (List.mem_of_getElem? (i := 25) rfl)) (hw _ (List.mem_of_getElem? (i := 27) rfl)) (hw _ (List.mem_of_getElem? (i := 3) rfl)) (by decide) (rm_holds_3 l Z a0 hw [] w_LESS_OR_EQUAL (-1 : Int32) (1 : Int32) h47 n0 hn47 E_LESS_OR_EQUAL O_LESS_OR_EQUAL_ordinal (by rw [own_f_rm_holds_3, if_neg (show ¬ ((0 : Int32) < (-1 : Int32)) by decide)]; try first | rfl | decide)) e61 E_LESS_OR_EQUAL (by rw [hml]; rfl) (argsL := [(.int (-1 : Int32))]) (rest := []) rfl rfl (lenOf own_pd2 rfl) (W := 0) (Nat.le_of_eq rfl) (by decide) (by decide) (hb hby at_62) (by decide) (by decide) ?_
    intro v62 T62 L62 X62 q62
    obtain ⟨rfl, N62q, e62⟩ := q62
    have N62 := Fr.app N61 N62q
    show Go _ _ _ _ _ T62 (mkF m 65 #[.val (.int p1), .val (.ref b35), .val (.int (3 : Int32)), .val (.ref w_LESS_OR_EQUAL), .val (.int (1 : Int32)), .unset, .unset] [(.int (1 : Int32))])
    refine own_go (fun t k => XS.aloadN X62.here hx rfl (hb hby at_65) rfl rfl k) ?_
    show Go _ _ _ _ _ T62 (mkF m 66 #[.val (.int p1), .val (.ref b35), .val (.int (3 : Int32)), .val (.ref w_LESS_OR_EQUAL), .val (.int (1 : Int32)), .unset, .unset] [(.ref w_LESS_OR_EQUAL), (.int (1 : Int32))])
    refine own_go (fun t k => XS.iconst X62.here hx rfl (hb hby at_66) k) ?_
    show Go _ _ _ _ _ T62 (mkF m 67 #[.val (.int p1), .val (.ref b35), .val (.int (3 : Int32)), .val (.ref w_LESS_OR_EQUAL), .val (.int (1 : Int32)), .unset, .unset] [(.int (1 : Int32)), (.ref w_LESS_OR_EQUAL), (.int (1 : Int32))])
    refine own_callV X62 hx hZ (y := (⟨"com/example/tallyfold/tallyfold/expr/ComparisonOperator", "holds", "(I)Z"⟩ : MethodName)) hown (hw _ (List.mem_of_getElem? (i := 23) rfl)) (hw _ (List.mem_of_getElem? (i := 24) rfl)) (hw _ (List.mem_of_getElem? (i := 26) rfl)) (hw _ (List.mem_of_getElem? (i := 25) rfl)) (hw _ (List.mem_of_getElem? (i := 27) rfl)) (hw _ (List.mem_of_getElem? (i := 3) rfl)) (by decide) (rm_holds_3 l Z a0 hw [] w_LESS_OR_EQUAL (1 : Int32) (0 : Int32) h47 n0 hn47 E_LESS_OR_EQUAL O_LESS_OR_EQUAL_ordinal (by rw [own_f_rm_holds_3, if_pos (show (0 : Int32) < (1 : Int32) by decide)]; try first | rfl | decide)) e62 E_LESS_OR_EQUAL (by rw [hml]; rfl) (argsL := [(.int (1 : Int32))]) (rest := [(.int (1 : Int32))]) rfl rfl (lenOf own_pd2 rfl) (W := 1) (Nat.le_of_eq rfl) (by decide) (by decide) (hb hby at_67) (by decide) (by decide) ?_
    intro v63 T63 L63 X63 q63
    obtain ⟨rfl, N63q, e63⟩ := q63
    have N63 := Fr.app N62 N63q
    show Go _ _ _ _ _ T63 (mkF m 70 #[.val (.int p1), .val (.ref b35), .val (.int (3 : Int32)), .val (.ref w_LESS_OR_EQUAL), .val (.int (1 : Int32)), .unset, .unset] [(.int (0 : Int32)), (.int (1 : Int32))])
    refine own_go (fun t k => XS.icmpNo X63.here hx rfl (hb hby at_70) rfl (by decide) k) ?_
    show Go _ _ _ _ _ T63 (mkF m 73 #[.val (.int p1), .val (.ref b35), .val (.int (3 : Int32)), .val (.ref w_LESS_OR_EQUAL), .val (.int (1 : Int32)), .unset, .unset] [])
    refine own_go (fun t k => XS.iconst X63.here hx rfl (hb hby at_73) k) ?_
    show Go _ _ _ _ _ T63 (mkF m 74 #[.val (.int p1), .val (.ref b35), .val (.int (3 : Int32)), .val (.ref w_LESS_OR_EQUAL), .val (.int (1 : Int32)), .unset, .unset] [(.int (1 : Int32))])
    refine own_go (fun t k => XS.goto X63.here hx rfl (pc0 := 74) (pc' := 78) rfl (hb hby at_74) (by decide) (by decide) k) ?_
    show Go _ _ _ _ _ T63 (mkF m 78 #[.val (.int p1), .val (.ref b35), .val (.int (3 : Int32)), .val (.ref w_LESS_OR_EQUAL), .val (.int (1 : Int32)), .unset, .unset] [(.int (1 : Int32))])
    refine own_go (fun t k => XS.istore X63.here hx rfl (hb hby at_78) rfl (l' := #[.val (.int p1), .val (.ref b35), .val (.int (3 : Int32)), .val (.ref w_LESS_OR_EQUAL), .val (.int (1 : Int32)), .val (.int (1 : Int32)), .unset]) rfl k) ?_
    show Go _ _ _ _ _ T63 (mkF m 80 #[.val (.int p1), .val (.ref b35), .val (.int (3 : Int32)), .val (.ref w_LESS_OR_EQUAL), .val (.int (1 : Int32)), .val (.int (1 : Int32)), .unset] [])
    refine own_go (fun t k => XS.iloadN X63.here hx rfl (hb hby at_80) rfl k) ?_
    show Go _ _ _ _ _ T63 (mkF m 81 #[.val (.int p1), .val (.ref b35), .val (.int (3 : Int32)), .val (.ref w_LESS_OR_EQUAL), .val (.int (1 : Int32)), .val (.int (1 : Int32)), .unset] [(.int (3 : Int32))])
    refine own_go (fun t k => XS.iconst X63.here hx rfl (hb hby at_81) k) ?_
    show Go _ _ _ _ _ T63 (mkF m 82 #[.val (.int p1), .val (.ref b35), .val (.int (3 : Int32)), .val (.ref w_LESS_OR_EQUAL), .val (.int (1 : Int32)), .val (.int (1 : Int32)), .unset] [(.int (2 : Int32)), (.int (3 : Int32))])
    refine own_go (fun t k => XS.icmpNo X63.here hx rfl (hb hby at_82) rfl (by decide) k) ?_
    show Go _ _ _ _ _ T63 (mkF m 85 #[.val (.int p1), .val (.ref b35), .val (.int (3 : Int32)), .val (.ref w_LESS_OR_EQUAL), .val (.int (1 : Int32)), .val (.int (1 : Int32)), .unset] [])
    refine own_go (fun t k => XS.iconst X63.here hx rfl (hb hby at_85) k) ?_
    show Go _ _ _ _ _ T63 (mkF m 86 #[.val (.int p1), .val (.ref b35), .val (.int (3 : Int32)), .val (.ref w_LESS_OR_EQUAL), .val (.int (1 : Int32)), .val (.int (1 : Int32)), .unset] [(.int (1 : Int32))])
    refine own_go (fun t k => XS.goto X63.here hx rfl (pc0 := 86) (pc' := 90) rfl (hb hby at_86) (by decide) (by decide) k) ?_
    show Go _ _ _ _ _ T63 (mkF m 90 #[.val (.int p1), .val (.ref b35), .val (.int (3 : Int32)), .val (.ref w_LESS_OR_EQUAL), .val (.int (1 : Int32)), .val (.int (1 : Int32)), .unset] [(.int (1 : Int32))])
    refine own_go (fun t k => XS.istore X63.here hx rfl (hb hby at_90) rfl (l' := #[.val (.int p1), .val (.ref b35), .val (.int (3 : Int32)), .val (.ref w_LESS_OR_EQUAL), .val (.int (1 : Int32)), .val (.int (1 : Int32)), .val (.int (1 : Int32))]) rfl k) ?_
    show Go _ _ _ _ _ T63 (mkF m 92 #[.val (.int p1), .val (.ref b35), .val (.int (3 : Int32)), .val (.ref w_LESS_OR_EQUAL), .val (.int (1 : Int32)), .val (.int (1 : Int32)), .val (.int (1 : Int32))] [])
    refine own_go (fun t k => XS.iload X63.here hx rfl (hb hby at_92) rfl k) ?_
    show Go _ _ _ _ _ T63 (mkF m 94 #[.val (.int p1), .val (.ref b35), .val (.int (3 : Int32)), .val (.ref w_LESS_OR_EQUAL), .val (.int (1 : Int32)), .val (.int (1 : Int32)), .val (.int (1 : Int32))] [(.int (1 : Int32))])
    refine own_go (fun t k => XS.iload X63.here hx rfl (hb hby at_94) rfl k) ?_
    show Go _ _ _ _ _ T63 (mkF m 96 #[.val (.int p1), .val (.ref b35), .val (.int (3 : Int32)), .val (.ref w_LESS_OR_EQUAL), .val (.int (1 : Int32)), .val (.int (1 : Int32)), .val (.int (1 : Int32))] [(.int (1 : Int32)), (.int (1 : Int32))])
    refine own_go (fun t k => XS.icmpNo X63.here hx rfl (hb hby at_96) rfl (by decide) k) ?_
    show Go _ _ _ _ _ T63 (mkF m 99 #[.val (.int p1), .val (.ref b35), .val (.int (3 : Int32)), .val (.ref w_LESS_OR_EQUAL), .val (.int (1 : Int32)), .val (.int (1 : Int32)), .val (.int (1 : Int32))] [])
    refine own_go (fun t k => XS.iload X63.here hx rfl (hb hby at_99) rfl k) ?_
    show Go _ _ _ _ _ T63 (mkF m 101 #[.val (.int p1), .val (.ref b35), .val (.int (3 : Int32)), .val (.ref w_LESS_OR_EQUAL), .val (.int (1 : Int32)), .val (.int (1 : Int32)), .val (.int (1 : Int32))] [(.int (1 : Int32))])
    refine own_go (fun t k => XS.iload X63.here hx rfl (hb hby at_101) rfl k) ?_
    show Go _ _ _ _ _ T63 (mkF m 103 #[.val (.int p1), .val (.ref b35), .val (.int (3 : Int32)), .val (.ref w_LESS_OR_EQUAL), .val (.int (1 : Int32)), .val (.int (1 : Int32)), .val (.int (1 : Int32))] [(.int (1 : Int32)), (.int (1 : Int32))])
    refine own_go (fun t k => XS.icmpNo X63.here hx rfl (hb hby at_103) rfl (by decide) k) ?_
    show Go _ _ _ _ _ T63 (mkF m 106 #[.val (.int p1), .val (.ref b35), .val (.int (3 : Int32)), .val (.ref w_LESS_OR_EQUAL), .val (.int (1 : Int32)), .val (.int (1 : Int32)), .val (.int (1 : Int32))] [])
    refine own_go (fun t k => XS.iconst X63.here hx rfl (hb hby at_106) k) ?_
    show Go _ _ _ _ _ T63 (mkF m 107 #[.val (.int p1), .val (.ref b35), .val (.int (3 : Int32)), .val (.ref w_LESS_OR_EQUAL), .val (.int (1 : Int32)), .val (.int (1 : Int32)), .val (.int (1 : Int32))] [(.int (1 : Int32))])
    refine own_go (fun t k => XS.goto X63.here hx rfl (pc0 := 107) (pc' := 111) rfl (hb hby at_107) (by decide) (by decide) k) ?_
    show Go _ _ _ _ _ T63 (mkF m 111 #[.val (.int p1), .val (.ref b35), .val (.int (3 : Int32)), .val (.ref w_LESS_OR_EQUAL), .val (.int (1 : Int32)), .val (.int (1 : Int32)), .val (.int (1 : Int32))] [(.int (1 : Int32))])
    refine own_retN X63 hx (own_lvN X63 hlk (by decide) (by decide)) (t := .boolean) hret (by simp) (hb hby at_111) ?_
    exact ⟨rfl, N63⟩
  · skip
    show Go _ _ _ _ _ T47 (mkF m 50 #[.val (.int p1), .val (.ref b35), .val (.int (4 : Int32)), .unset, .unset, .unset, .unset] [])
    refine own_go (fun t k => XS.aloadN X47.here hx rfl (hb hby at_50) rfl rfl k) ?_
    show Go _ _ _ _ _ T47 (mkF m 51 #[.val (.int p1), .val (.ref b35), .val (.int (4 : Int32)), .unset, .unset, .unset, .unset] [(.ref b35)])
    refine own_go (fun t k => XS.iloadN X47.here hx rfl (hb hby at_51) rfl k) ?_
    show Go _ _ _ _ _ T47 (mkF m 52 #[.val (.int p1), .val (.ref b35), .val (.int (4 : Int32)), .unset, .unset, .unset, .unset] [(.int (4 : Int32)), (.ref b35)])
    obtain ⟨cl64, Ar64, q64, S64, N64z, H64, G64⟩ := id V47
    have hin64 := inb_of S64 (j := (4 : Int32)) (z := (6 : Int32)) ⟨by decide, by decide⟩
    have hat64 : cl64.slots[((4 : Int32)).toNatClampNeg]? = some (.ref w_GREATER) := H64 _ (Nat.lt_of_not_le fun q => hin64 (Or.inr q))
    refine own_go (fun t k => X47.aaload hx (j := (4 : Int32)) (v := (.ref w_GREATER)) (by rw [e47]; exact Ar64.1) (State.isArrayOf_alike hZ.alike Ar64.2.1) rfl Ar64.2.2 hin64 hat64 (g := (mkF m 52 #[.val (.int p1), .val (.ref b35), .val (.int (4 : Int32)), .unset, .unset, .unset, .unset] [(.int (4 : Int32)), (.ref b35)])) rfl rfl (hb hby at_52) _ k) ?_
    show Go _ _ _ _ _ T47 (mkF m 53 #[.val (.int p1), .val (.ref b35), .val (.int (4 : Int32)), .unset, .unset, .unset, .unset] [(.ref w_GREATER)])
    refine own_go (fun t k => XS.astoreN X47.here hx rfl (hb hby at_53) rfl rfl (l' := #[.val (.int p1), .val (.ref b35), .val (.int (4 : Int32)), .val (.ref w_GREATER), .unset, .unset, .unset]) rfl k) ?_
    show Go _ _ _ _ _ T47 (mkF m 54 #[.val (.int p1), .val (.ref b35), .val (.int (4 : Int32)), .val (.ref w_GREATER), .unset, .unset, .unset] [])
    refine own_go (fun t k => XS.aloadN X47.here hx rfl (hb hby at_54) rfl rfl k) ?_
    show Go _ _ _ _ _ T47 (mkF m 55 #[.val (.int p1), .val (.ref b35), .val (.int (4 : Int32)), .val (.ref w_GREATER), .unset, .unset, .unset] [(.ref w_GREATER)])
    refine own_callV X47 hx hZ (y := (⟨"com/example/tallyfold/tallyfold/expr/ComparisonOperator", "ordersValues", "()Z"⟩ : MethodName)) hown (hw _ (List.mem_of_getElem? (i := 17) rfl)) (hw _ (List.mem_of_getElem? (i := 18) rfl)) (hw _ (List.mem_of_getElem? (i := 20) rfl)) (hw _ (List.mem_of_getElem? (i := 19) rfl)) (hw _ (List.mem_of_getElem? (i := 21) rfl)) (hw _ (List.mem_of_getElem? (i := 3) rfl)) (by decide) (rm1 l Z a0 hw [] w_GREATER w_EQUAL w_NOT_EQUAL w_LESS w_LESS_OR_EQUAL w_GREATER w_GREATER_OR_EQUAL (1 : Int32) h47 n0 hn47 S_EQUAL S_NOT_EQUAL S_LESS S_LESS_OR_EQUAL S_GREATER S_GREATER_OR_EQUAL (by rw [own_f_rm1, if_neg (fun q => D_w_EQUAL_w_GREATER q.symm), if_neg (fun q => D_w_NOT_EQUAL_w_GREATER q.symm)]; try first | rfl | decide)) e47 E_GREATER (by rw [hml]; rfl) (argsL := []) (rest := []) rfl rfl (lenOf own_pd1 rfl) (W := 0) (Nat.le_of_eq rfl) (by decide) (by decide) (hb hby at_55) (by decide) (by decide) ?_
    intro v65 T65 L65 X65 q65
    obtain ⟨rfl, N65q, e65⟩ := q65
    have N65 := Fr.app N47 N65q
    show Go _ _ _ _ _ T65 (mkF m 58 #[.val (.int p1), .val (.ref b35), .val (.int (4 : Int32)), .val (.ref w_GREATER), .unset, .unset, .unset] [(.int (1 : Int32))])
    refine own_go (fun t k => XS.istore X65.here hx rfl (hb hby at_58) rfl (l' := #[.val (.int p1), .val (.ref b35), .val (.int (4 : Int32)), .val (.ref w_GREATER), .val (.int (1 : Int32)), .unset, .unset]) rfl k) ?_
    show Go _ _ _ _ _ T65 (mkF m 60 #[.val (.int p1), .val (.ref b35), .val (.int (4 : Int32)), .val (.ref w_GREATER), .val (.int (1 : Int32)), .unset, .unset] [])
    refine own_go (fun t k => XS.aloadN X65.here hx rfl (hb hby at_60) rfl rfl k) ?_
    show Go _ _ _ _ _ T65 (mkF m 61 #[.val (.int p1), .val (.ref b35), .val (.int (4 : Int32)), .val (.ref w_GREATER), .val (.int (1 : Int32)), .unset, .unset] [(.ref w_GREATER)])
    refine own_go (fun t k => XS.iconst X65.here hx rfl (hb hby at_61) k) ?_
    show Go _ _ _ _ _ T65 (mkF m 62 #[.val (.int p1), .val (.ref b35), .val (.int (4 : Int32)), .val (.ref w_GREATER), .val (.int (1 : Int32)), .unset, .unset] [(.int (-1 : Int32)), (.ref w_GREATER)])
    refine own_callV X65 hx hZ (y := (⟨"com/example/tallyfold/tallyfold/expr/ComparisonOperator", "holds", "(I)Z"⟩ : MethodName)) hown (hw _ (List.mem_of_getElem? (i := 23) rfl)) (hw _ (List.mem_of_getElem? (i := 24) rfl)) (hw _ (List.mem_of_getElem? (i := 26) rfl)) (hw _ (List.mem_of_getElem? (i := 25) rfl)) (hw _ (List.mem_of_getElem? (i := 27) rfl)) (hw _ (List.mem_of_getElem? (i := 3) rfl)) (by decide) (rm_holds_4 l Z a0 hw [] w_GREATER (-1 : Int32) (0 : Int32) h47 n0 hn47 E_GREATER O_GREATER_ordinal (by rw [own_f_rm_holds_4, if_neg (show ¬ ((0 : Int32) < (-1 : Int32)) by decide)]; try first | rfl | decide)) e65 E_GREATER (by rw [hml]; rfl) (argsL := [(.int (-1 : Int32))]) (rest := []) rfl rfl (lenOf own_pd2 rfl) (W := 0) (Nat.le_of_eq rfl) (by decide) (by decide) (hb hby at_62) (by decide) (by decide) ?_
    intro v66 T66 L66 X66 q66
    obtain ⟨rfl, N66q, e66⟩ := q66
    have N66 := Fr.app N65 N66q
    show Go _ _ _ _ _ T66 (mkF m 65 #[.val (.int p1), .val (.ref b35), .val (.int (4 : Int32)), .val (.ref w_GREATER), .val (.int (1 : Int32)), .unset, .unset] [(.int (0 : Int32))])
    refine own_go (fun t k => XS.aloadN X66.here hx rfl (hb hby at_65) rfl rfl k) ?_
    show Go _ _ _ _ _ T66 (mkF m 66 #[.val (.int p1), .val (.ref b35), .val (.int (4 : Int32)), .val (.ref w_GREATER), .val (.int (1 : Int32)), .unset, .unset] [(.ref w_GREATER), (.int (0 : Int32))])
    refine own_go (fun t k => XS.iconst X66.here hx rfl (hb hby at_66) k) ?_
    show Go _ _ _ _ _ T66 (mkF m 67 #[.val (.int p1), .val (.ref b35), .val (.int (4 : Int32)), .val (.ref w_GREATER), .val (.int (1 : Int32)), .unset, .unset] [(.int (1 : Int32)), (.ref w_GREATER), (.int (0 : Int32))])
    refine own_callV X66 hx hZ (y := (⟨"com/example/tallyfold/tallyfold/expr/ComparisonOperator", "holds", "(I)Z"⟩ : MethodName)) hown (hw _ (List.mem_of_getElem? (i := 23) rfl)) (hw _ (List.mem_of_getElem? (i := 24) rfl)) (hw _ (List.mem_of_getElem? (i := 26) rfl)) (hw _ (List.mem_of_getElem? (i := 25) rfl)) (hw _ (List.mem_of_getElem? (i := 27) rfl)) (hw _ (List.mem_of_getElem? (i := 3) rfl)) (by decide) (rm_holds_4 l Z a0 hw [] w_GREATER (1 : Int32) (1 : Int32) h47 n0 hn47 E_GREATER O_GREATER_ordinal (by rw [own_f_rm_holds_4, if_pos (show (0 : Int32) < (1 : Int32) by decide)]; try first | rfl | decide)) e66 E_GREATER (by rw [hml]; rfl) (argsL := [(.int (1 : Int32))]) (rest := [(.int (0 : Int32))]) rfl rfl (lenOf own_pd2 rfl) (W := 1) (Nat.le_of_eq rfl) (by decide) (by decide) (hb hby at_67) (by decide) (by decide) ?_
    intro v67 T67 L67 X67 q67
    obtain ⟨rfl, N67q, e67⟩ := q67
    have N67 := Fr.app N66 N67q
    show Go _ _ _ _ _ T67 (mkF m 70 #[.val (.int p1), .val (.ref b35), .val (.int (4 : Int32)), .val (.ref w_GREATER), .val (.int (1 : Int32)), .unset, .unset] [(.int (1 : Int32)), (.int (0 : Int32))])
    refine own_go (fun t k => XS.icmpNo X67.here hx rfl (hb hby at_70) rfl (by decide) k) ?_
    show Go _ _ _ _ _ T67 (mkF m 73 #[.val (.int p1), .val (.ref b35), .val (.int (4 : Int32)), .val (.ref w_GREATER), .val (.int (1 : Int32)), .unset, .unset] [])
    refine own_go (fun t k => XS.iconst X67.here hx rfl (hb hby at_73) k) ?_
    show Go _ _ _ _ _ T67 (mkF m 74 #[.val (.int p1), .val (.ref b35), .val (.int (4 : Int32)), .val (.ref w_GREATER), .val (.int (1 : Int32)), .unset, .unset] [(.int (1 : Int32))])
    refine own_go (fun t k => XS.goto X67.here hx rfl (pc0 := 74) (pc' := 78) rfl (hb hby at_74) (by decide) (by decide) k) ?_
    show Go _ _ _ _ _ T67 (mkF m 78 #[.val (.int p1), .val (.ref b35), .val (.int (4 : Int32)), .val (.ref w_GREATER), .val (.int (1 : Int32)), .unset, .unset] [(.int (1 : Int32))])
    refine own_go (fun t k => XS.istore X67.here hx rfl (hb hby at_78) rfl (l' := #[.val (.int p1), .val (.ref b35), .val (.int (4 : Int32)), .val (.ref w_GREATER), .val (.int (1 : Int32)), .val (.int (1 : Int32)), .unset]) rfl k) ?_
    show Go _ _ _ _ _ T67 (mkF m 80 #[.val (.int p1), .val (.ref b35), .val (.int (4 : Int32)), .val (.ref w_GREATER), .val (.int (1 : Int32)), .val (.int (1 : Int32)), .unset] [])
    refine own_go (fun t k => XS.iloadN X67.here hx rfl (hb hby at_80) rfl k) ?_
    show Go _ _ _ _ _ T67 (mkF m 81 #[.val (.int p1), .val (.ref b35), .val (.int (4 : Int32)), .val (.ref w_GREATER), .val (.int (1 : Int32)), .val (.int (1 : Int32)), .unset] [(.int (4 : Int32))])
    refine own_go (fun t k => XS.iconst X67.here hx rfl (hb hby at_81) k) ?_
    show Go _ _ _ _ _ T67 (mkF m 82 #[.val (.int p1), .val (.ref b35), .val (.int (4 : Int32)), .val (.ref w_GREATER), .val (.int (1 : Int32)), .val (.int (1 : Int32)), .unset] [(.int (2 : Int32)), (.int (4 : Int32))])
    refine own_go (fun t k => XS.icmpNo X67.here hx rfl (hb hby at_82) rfl (by decide) k) ?_
    show Go _ _ _ _ _ T67 (mkF m 85 #[.val (.int p1), .val (.ref b35), .val (.int (4 : Int32)), .val (.ref w_GREATER), .val (.int (1 : Int32)), .val (.int (1 : Int32)), .unset] [])
    refine own_go (fun t k => XS.iconst X67.here hx rfl (hb hby at_85) k) ?_
    show Go _ _ _ _ _ T67 (mkF m 86 #[.val (.int p1), .val (.ref b35), .val (.int (4 : Int32)), .val (.ref w_GREATER), .val (.int (1 : Int32)), .val (.int (1 : Int32)), .unset] [(.int (1 : Int32))])
    refine own_go (fun t k => XS.goto X67.here hx rfl (pc0 := 86) (pc' := 90) rfl (hb hby at_86) (by decide) (by decide) k) ?_
    show Go _ _ _ _ _ T67 (mkF m 90 #[.val (.int p1), .val (.ref b35), .val (.int (4 : Int32)), .val (.ref w_GREATER), .val (.int (1 : Int32)), .val (.int (1 : Int32)), .unset] [(.int (1 : Int32))])
    refine own_go (fun t k => XS.istore X67.here hx rfl (hb hby at_90) rfl (l' := #[.val (.int p1), .val (.ref b35), .val (.int (4 : Int32)), .val (.ref w_GREATER), .val (.int (1 : Int32)), .val (.int (1 : Int32)), .val (.int (1 : Int32))]) rfl k) ?_
    show Go _ _ _ _ _ T67 (mkF m 92 #[.val (.int p1), .val (.ref b35), .val (.int (4 : Int32)), .val (.ref w_GREATER), .val (.int (1 : Int32)), .val (.int (1 : Int32)), .val (.int (1 : Int32))] [])
    refine own_go (fun t k => XS.iload X67.here hx rfl (hb hby at_92) rfl k) ?_
    show Go _ _ _ _ _ T67 (mkF m 94 #[.val (.int p1), .val (.ref b35), .val (.int (4 : Int32)), .val (.ref w_GREATER), .val (.int (1 : Int32)), .val (.int (1 : Int32)), .val (.int (1 : Int32))] [(.int (1 : Int32))])
    refine own_go (fun t k => XS.iload X67.here hx rfl (hb hby at_94) rfl k) ?_
    show Go _ _ _ _ _ T67 (mkF m 96 #[.val (.int p1), .val (.ref b35), .val (.int (4 : Int32)), .val (.ref w_GREATER), .val (.int (1 : Int32)), .val (.int (1 : Int32)), .val (.int (1 : Int32))] [(.int (1 : Int32)), (.int (1 : Int32))])
    refine own_go (fun t k => XS.icmpNo X67.here hx rfl (hb hby at_96) rfl (by decide) k) ?_
    show Go _ _ _ _ _ T67 (mkF m 99 #[.val (.int p1), .val (.ref b35), .val (.int (4 : Int32)), .val (.ref w_GREATER), .val (.int (1 : Int32)), .val (.int (1 : Int32)), .val (.int (1 : Int32))] [])
    refine own_go (fun t k => XS.iload X67.here hx rfl (hb hby at_99) rfl k) ?_
    show Go _ _ _ _ _ T67 (mkF m 101 #[.val (.int p1), .val (.ref b35), .val (.int (4 : Int32)), .val (.ref w_GREATER), .val (.int (1 : Int32)), .val (.int (1 : Int32)), .val (.int (1 : Int32))] [(.int (1 : Int32))])
    refine own_go (fun t k => XS.iload X67.here hx rfl (hb hby at_101) rfl k) ?_
    show Go _ _ _ _ _ T67 (mkF m 103 #[.val (.int p1), .val (.ref b35), .val (.int (4 : Int32)), .val (.ref w_GREATER), .val (.int (1 : Int32)), .val (.int (1 : Int32)), .val (.int (1 : Int32))] [(.int (1 : Int32)), (.int (1 : Int32))])
    refine own_go (fun t k => XS.icmpNo X67.here hx rfl (hb hby at_103) rfl (by decide) k) ?_
    show Go _ _ _ _ _ T67 (mkF m 106 #[.val (.int p1), .val (.ref b35), .val (.int (4 : Int32)), .val (.ref w_GREATER), .val (.int (1 : Int32)), .val (.int (1 : Int32)), .val (.int (1 : Int32))] [])
    refine own_go (fun t k => XS.iconst X67.here hx rfl (hb hby at_106) k) ?_
    show Go _ _ _ _ _ T67 (mkF m 107 #[.val (.int p1), .val (.ref b35), .val (.int (4 : Int32)), .val (.ref w_GREATER), .val (.int (1 : Int32)), .val (.int (1 : Int32)), .val (.int (1 : Int32))] [(.int (1 : Int32))])
    refine own_go (fun t k => XS.goto X67.here hx rfl (pc0 := 107) (pc' := 111) rfl (hb hby at_107) (by decide) (by decide) k) ?_
    show Go _ _ _ _ _ T67 (mkF m 111 #[.val (.int p1), .val (.ref b35), .val (.int (4 : Int32)), .val (.ref w_GREATER), .val (.int (1 : Int32)), .val (.int (1 : Int32)), .val (.int (1 : Int32))] [(.int (1 : Int32))])
    refine own_retN X67 hx (own_lvN X67 hlk (by decide) (by decide)) (t := .boolean) hret (by simp) (hb hby at_111) ?_
    exact ⟨rfl, N67⟩
  · skip
    show Go _ _ _ _ _ T47 (mkF m 50 #[.val (.int p1), .val (.ref b35), .val (.int (5 : Int32)), .unset, .unset, .unset, .unset] [])
    refine own_go (fun t k => XS.aloadN X47.here hx rfl (hb hby at_50) rfl rfl k) ?_
    show Go _ _ _ _ _ T47 (mkF m 51 #[.val (.int p1), .val (.ref b35), .val (.int (5 : Int32)), .unset, .unset, .unset, .unset] [(.ref b35)])
    refine own_go (fun t k => XS.iloadN X47.here hx rfl (hb hby at_51) rfl k) ?_
    show Go _ _ _ _ _ T47 (mkF m 52 #[.val (.int p1), .val (.ref b35), .val (.int (5 : Int32)), .unset, .unset, .unset, .unset] [(.int (5 : Int32)), (.ref b35)])
    obtain ⟨cl68, Ar68, q68, S68, N68z, H68, G68⟩ := id V47
    have hin68 := inb_of S68 (j := (5 : Int32)) (z := (6 : Int32)) ⟨by decide, by decide⟩
    have hat68 : cl68.slots[((5 : Int32)).toNatClampNeg]? = some (.ref w_GREATER_OR_EQUAL) := H68 _ (Nat.lt_of_not_le fun q => hin68 (Or.inr q))
    refine own_go (fun t k => X47.aaload hx (j := (5 : Int32)) (v := (.ref w_GREATER_OR_EQUAL)) (by rw [e47]; exact Ar68.1) (State.isArrayOf_alike hZ.alike Ar68.2.1) rfl Ar68.2.2 hin68 hat68 (g := (mkF m 52 #[.val (.int p1), .val (.ref b35), .val (.int (5 : Int32)), .unset, .unset, .unset, .unset] [(.int (5 : Int32)), (.ref b35)])) rfl rfl (hb hby at_52) _ k) ?_
    show Go _ _ _ _ _ T47 (mkF m 53 #[.val (.int p1), .val (.ref b35), .val (.int (5 : Int32)), .unset, .unset, .unset, .unset] [(.ref w_GREATER_OR_EQUAL)])
    refine own_go (fun t k => XS.astoreN X47.here hx rfl (hb hby at_53) rfl rfl (l' := #[.val (.int p1), .val (.ref b35), .val (.int (5 : Int32)), .val (.ref w_GREATER_OR_EQUAL), .unset, .unset, .unset]) rfl k) ?_
    show Go _ _ _ _ _ T47 (mkF m 54 #[.val (.int p1), .val (.ref b35), .val (.int (5 : Int32)), .val (.ref w_GREATER_OR_EQUAL), .unset, .unset, .unset] [])
    refine own_go (fun t k => XS.aloadN X47.here hx rfl (hb hby at_54) rfl rfl k) ?_
    show Go _ _ _ _ _ T47 (mkF m 55 #[.val (.int p1), .val (.ref b35), .val (.int (5 : Int32)), .val (.ref w_GREATER_OR_EQUAL), .unset, .unset, .unset] [(.ref w_GREATER_OR_EQUAL)])
    refine own_callV X47 hx hZ (y := (⟨"com/example/tallyfold/tallyfold/expr/ComparisonOperator", "ordersValues", "()Z"⟩ : MethodName)) hown (hw _ (List.mem_of_getElem? (i := 17) rfl)) (hw _ (List.mem_of_getElem? (i := 18) rfl)) (hw _ (List.mem_of_getElem? (i := 20) rfl)) (hw _ (List.mem_of_getElem? (i := 19) rfl)) (hw _ (List.mem_of_getElem? (i := 21) rfl)) (hw _ (List.mem_of_getElem? (i := 3) rfl)) (by decide) (rm1 l Z a0 hw [] w_GREATER_OR_EQUAL w_EQUAL w_NOT_EQUAL w_LESS w_LESS_OR_EQUAL w_GREATER w_GREATER_OR_EQUAL (1 : Int32) h47 n0 hn47 S_EQUAL S_NOT_EQUAL S_LESS S_LESS_OR_EQUAL S_GREATER S_GREATER_OR_EQUAL (by rw [own_f_rm1, if_neg (fun q => D_w_EQUAL_w_GREATER_OR_EQUAL q.symm), if_neg (fun q => D_w_NOT_EQUAL_w_GREATER_OR_EQUAL q.symm)]; try first | rfl | decide)) e47 E_GREATER_OR_EQUAL (by rw [hml]; rfl) (argsL := []) (rest := []) rfl rfl (lenOf own_pd1 rfl) (W := 0) (Nat.le_of_eq rfl) (by decide) (by decide) (hb hby at_55) (by decide) (by decide) ?_
    intro v69 T69 L69 X69 q69
    obtain ⟨rfl, N69q, e69⟩ := q69
    have N69 := Fr.app N47 N69q
    show Go _ _ _ _ _ T69 (mkF m 58 #[.val (.int p1), .val (.ref b35), .val (.int (5 : Int32)), .val (.ref w_GREATER_OR_EQUAL), .unset, .unset, .unset] [(.int (1 : Int32))])
    refine own_go (fun t k => XS.istore X69.here hx rfl (hb hby at_58) rfl (l' := #[.val (.int p1), .val (.ref b35), .val (.int (5 : Int32)), .val (.ref w_GREATER_OR_EQUAL), .val (.int (1 : Int32)), .unset, .unset]) rfl k) ?_
    show Go _ _ _ _ _ T69 (mkF m 60 #[.val (.int p1), .val (.ref b35), .val (.int (5 : Int32)), .val (.ref w_GREATER_OR_EQUAL), .val (.int (1 : Int32)), .unset, .unset] [])
    refine own_go (fun t k => XS.aloadN X69.here hx rfl (hb hby at_60) rfl rfl k) ?_
    show Go _ _ _ _ _ T69 (mkF m 61 #[.val (.int p1), .val (.ref b35), .val (.int (5 : Int32)), .val (.ref w_GREATER_OR_EQUAL), .val (.int (1 : Int32)), .unset, .unset] [(.ref w_GREATER_OR_EQUAL)])
    refine own_go (fun t k => XS.iconst X69.here hx rfl (hb hby at_61) k) ?_
    show Go _ _ _ _ _ T69 (mkF m 62 #[.val (.int p1), .val (.ref b35), .val (.int (5 : Int32)), .val (.ref w_GREATER_OR_EQUAL), .val (.int (1 : Int32)), .unset, .unset] [(.int (-1 : Int32)), (.ref w_GREATER_OR_EQUAL)])
    refine own_callV X69 hx hZ (y := (⟨"com/example/tallyfold/tallyfold/expr/ComparisonOperator", "holds", "(I)Z"⟩ : MethodName)) hown (hw _ (List.mem_of_getElem? (i := 23) rfl)) (hw _ (List.mem_of_getElem? (i := 24) rfl)) (hw _ (List.mem_of_getElem? (i := 26) rfl)) (hw _ (List.mem_of_getElem? (i := 25) rfl)) (hw _ (List.mem_of_getElem? (i := 27) rfl)) (hw _ (List.mem_of_getElem? (i := 3) rfl)) (by decide) (rm_holds_5 l Z a0 hw [] w_GREATER_OR_EQUAL (-1 : Int32) (0 : Int32) h47 n0 hn47 E_GREATER_OR_EQUAL O_GREATER_OR_EQUAL_ordinal (by rw [own_f_rm_holds_5, if_pos (show (-1 : Int32) < (0 : Int32) by decide)]; try first | rfl | decide)) e69 E_GREATER_OR_EQUAL (by rw [hml]; rfl) (argsL := [(.int (-1 : Int32))]) (rest := []) rfl rfl (lenOf own_pd2 rfl) (W := 0) (Nat.le_of_eq rfl) (by decide) (by decide) (hb hby at_62) (by decide) (by decide) ?_
    intro v70 T70 L70 X70 q70
    obtain ⟨rfl, N70q, e70⟩ := q70
    have N70 := Fr.app N69 N70q
    show Go _ _ _ _ _ T70 (mkF m 65 #[.val (.int p1), .val (.ref b35), .val (.int (5 : Int32)), .val (.ref w_GREATER_OR_EQUAL), .val (.int (1 : Int32)), .unset, .unset] [(.int (0 : Int32))])
    refine own_go (fun t k => XS.aloadN X70.here hx rfl (hb hby at_65) rfl rfl k) ?_
    show Go _ _ _ _ _ T70 (mkF m 66 #[.val (.int p1), .val (.ref b35), .val (.int (5 : Int32)), .val (.ref w_GREATER_OR_EQUAL), .val (.int (1 : Int32)), .unset, .unset] [(.ref w_GREATER_OR_EQUAL), (.int (0 : Int32))])
    refine own_go (fun t k => XS.iconst X70.here hx rfl (hb hby at_66) k) ?_
    show Go _ _ _ _ _ T70 (mkF m 67 #[.val (.int p1), .val (.ref b35), .val (.int (5 : Int32)), .val (.ref w_GREATER_OR_EQUAL), .val (.int (1 : Int32)), .unset, .unset] [(.int (1 : Int32)), (.ref w_GREATER_OR_EQUAL), (.int (0 : Int32))])
    refine own_callV X70 hx hZ (y := (⟨"com/example/tallyfold/tallyfold/expr/ComparisonOperator", "holds", "(I)Z"⟩ : MethodName)) hown (hw _ (List.mem_of_getElem? (i := 23) rfl)) (hw _ (List.mem_of_getElem? (i := 24) rfl)) (hw _ (List.mem_of_getElem? (i := 26) rfl)) (hw _ (List.mem_of_getElem? (i := 25) rfl)) (hw _ (List.mem_of_getElem? (i := 27) rfl)) (hw _ (List.mem_of_getElem? (i := 3) rfl)) (by decide) (rm_holds_5 l Z a0 hw [] w_GREATER_OR_EQUAL (1 : Int32) (1 : Int32) h47 n0 hn47 E_GREATER_OR_EQUAL O_GREATER_OR_EQUAL_ordinal (by rw [own_f_rm_holds_5, if_neg (show ¬ ((1 : Int32) < (0 : Int32)) by decide)]; try first | rfl | decide)) e70 E_GREATER_OR_EQUAL (by rw [hml]; rfl) (argsL := [(.int (1 : Int32))]) (rest := [(.int (0 : Int32))]) rfl rfl (lenOf own_pd2 rfl) (W := 1) (Nat.le_of_eq rfl) (by decide) (by decide) (hb hby at_67) (by decide) (by decide) ?_
    intro v71 T71 L71 X71 q71
    obtain ⟨rfl, N71q, e71⟩ := q71
    have N71 := Fr.app N70 N71q
    show Go _ _ _ _ _ T71 (mkF m 70 #[.val (.int p1), .val (.ref b35), .val (.int (5 : Int32)), .val (.ref w_GREATER_OR_EQUAL), .val (.int (1 : Int32)), .unset, .unset] [(.int (1 : Int32)), (.int (0 : Int32))])
    refine own_go (fun t k => XS.icmpNo X71.here hx rfl (hb hby at_70) rfl (by decide) k) ?_
    show Go _ _ _ _ _ T71 (mkF m 73 #[.val (.int p1), .val (.ref b35), .val (.int (5 : Int32)), .val (.ref w_GREATER_OR_EQUAL), .val (.int (1 : Int32)), .unset, .unset] [])
    refine own_go (fun t k => XS.iconst X71.here hx rfl (hb hby at_73) k) ?_
    show Go _ _ _ _ _ T71 (mkF m 74 #[.val (.int p1), .val (.ref b35), .val (.int (5 : Int32)), .val (.ref w_GREATER_OR_EQUAL), .val (.int (1 : Int32)), .unset, .unset] [(.int (1 : Int32))])
    refine own_go (fun t k => XS.goto X71.here hx rfl (pc0 := 74) (pc' := 78) rfl (hb hby at_74) (by decide) (by decide) k) ?_
    show Go _ _ _ _ _ T71 (mkF m 78 #[.val (.int p1), .val (.ref b35), .val (.int (5 : Int32)), .val (.ref w_GREATER_OR_EQUAL), .val (.int (1 : Int32)), .unset, .unset] [(.int (1 : Int32))])
    refine own_go (fun t k => XS.istore X71.here hx rfl (hb hby at_78) rfl (l' := #[.val (.int p1), .val (.ref b35), .val (.int (5 : Int32)), .val (.ref w_GREATER_OR_EQUAL), .val (.int (1 : Int32)), .val (.int (1 : Int32)), .unset]) rfl k) ?_
    show Go _ _ _ _ _ T71 (mkF m 80 #[.val (.int p1), .val (.ref b35), .val (.int (5 : Int32)), .val (.ref w_GREATER_OR_EQUAL), .val (.int (1 : Int32)), .val (.int (1 : Int32)), .unset] [])
    refine own_go (fun t k => XS.iloadN X71.here hx rfl (hb hby at_80) rfl k) ?_
    show Go _ _ _ _ _ T71 (mkF m 81 #[.val (.int p1), .val (.ref b35), .val (.int (5 : Int32)), .val (.ref w_GREATER_OR_EQUAL), .val (.int (1 : Int32)), .val (.int (1 : Int32)), .unset] [(.int (5 : Int32))])
    refine own_go (fun t k => XS.iconst X71.here hx rfl (hb hby at_81) k) ?_
    show Go _ _ _ _ _ T71 (mkF m 82 #[.val (.int p1), .val (.ref b35), .val (.int (5 : Int32)), .val (.ref w_GREATER_OR_EQUAL), .val (.int (1 : Int32)), .val (.int (1 : Int32)), .unset] [(.int (2 : Int32)), (.int (5 : Int32))])
    refine own_go (fun t k => XS.icmpNo X71.here hx rfl (hb hby at_82) rfl (by decide) k) ?_
    show Go _ _ _ _ _ T71 (mkF m 85 #[.val (.int p1), .val (.ref b35), .val (.int (5 : Int32)), .val (.ref w_GREATER_OR_EQUAL), .val (.int (1 : Int32)), .val (.int (1 : Int32)), .unset] [])
    refine own_go (fun t k => XS.iconst X71.here hx rfl (hb hby at_85) k) ?_
    show Go _ _ _ _ _ T71 (mkF m 86 #[.val (.int p1), .val (.ref b35), .val (.int (5 : Int32)), .val (.ref w_GREATER_OR_EQUAL), .val (.int (1 : Int32)), .val (.int (1 : Int32)), .unset] [(.int (1 : Int32))])
    refine own_go (fun t k => XS.goto X71.here hx rfl (pc0 := 86) (pc' := 90) rfl (hb hby at_86) (by decide) (by decide) k) ?_
    show Go _ _ _ _ _ T71 (mkF m 90 #[.val (.int p1), .val (.ref b35), .val (.int (5 : Int32)), .val (.ref w_GREATER_OR_EQUAL), .val (.int (1 : Int32)), .val (.int (1 : Int32)), .unset] [(.int (1 : Int32))])
    refine own_go (fun t k => XS.istore X71.here hx rfl (hb hby at_90) rfl (l' := #[.val (.int p1), .val (.ref b35), .val (.int (5 : Int32)), .val (.ref w_GREATER_OR_EQUAL), .val (.int (1 : Int32)), .val (.int (1 : Int32)), .val (.int (1 : Int32))]) rfl k) ?_
    show Go _ _ _ _ _ T71 (mkF m 92 #[.val (.int p1), .val (.ref b35), .val (.int (5 : Int32)), .val (.ref w_GREATER_OR_EQUAL), .val (.int (1 : Int32)), .val (.int (1 : Int32)), .val (.int (1 : Int32))] [])
    refine own_go (fun t k => XS.iload X71.here hx rfl (hb hby at_92) rfl k) ?_
    show Go _ _ _ _ _ T71 (mkF m 94 #[.val (.int p1), .val (.ref b35), .val (.int (5 : Int32)), .val (.ref w_GREATER_OR_EQUAL), .val (.int (1 : Int32)), .val (.int (1 : Int32)), .val (.int (1 : Int32))] [(.int (1 : Int32))])
    refine own_go (fun t k => XS.iload X71.here hx rfl (hb hby at_94) rfl k) ?_
    show Go _ _ _ _ _ T71 (mkF m 96 #[.val (.int p1), .val (.ref b35), .val (.int (5 : Int32)), .val (.ref w_GREATER_OR_EQUAL), .val (.int (1 : Int32)), .val (.int (1 : Int32)), .val (.int (1 : Int32))] [(.int (1 : Int32)), (.int (1 : Int32))])
    refine own_go (fun t k => XS.icmpNo X71.here hx rfl (hb hby at_96) rfl (by decide) k) ?_
    show Go _ _ _ _ _ T71 (mkF m 99 #[.val (.int p1), .val (.ref b35), .val (.int (5 : Int32)), .val (.ref w_GREATER_OR_EQUAL), .val (.int (1 : Int32)), .val (.int (1 : Int32)), .val (.int (1 : Int32))] [])
    refine own_go (fun t k => XS.iload X71.here hx rfl (hb hby at_99) rfl k) ?_
    show Go _ _ _ _ _ T71 (mkF m 101 #[.val (.int p1), .val (.ref b35), .val (.int (5 : Int32)), .val (.ref w_GREATER_OR_EQUAL), .val (.int (1 : Int32)), .val (.int (1 : Int32)), .val (.int (1 : Int32))] [(.int (1 : Int32))])
    refine own_go (fun t k => XS.iload X71.here hx rfl (hb hby at_101) rfl k) ?_
    show Go _ _ _ _ _ T71 (mkF m 103 #[.val (.int p1), .val (.ref b35), .val (.int (5 : Int32)), .val (.ref w_GREATER_OR_EQUAL), .val (.int (1 : Int32)), .val (.int (1 : Int32)), .val (.int (1 : Int32))] [(.int (1 : Int32)), (.int (1 : Int32))])
    refine own_go (fun t k => XS.icmpNo X71.here hx rfl (hb hby at_103) rfl (by decide) k) ?_
    show Go _ _ _ _ _ T71 (mkF m 106 #[.val (.int p1), .val (.ref b35), .val (.int (5 : Int32)), .val (.ref w_GREATER_OR_EQUAL), .val (.int (1 : Int32)), .val (.int (1 : Int32)), .val (.int (1 : Int32))] [])
    refine own_go (fun t k => XS.iconst X71.here hx rfl (hb hby at_106) k) ?_
    show Go _ _ _ _ _ T71 (mkF m 107 #[.val (.int p1), .val (.ref b35), .val (.int (5 : Int32)), .val (.ref w_GREATER_OR_EQUAL), .val (.int (1 : Int32)), .val (.int (1 : Int32)), .val (.int (1 : Int32))] [(.int (1 : Int32))])
    refine own_go (fun t k => XS.goto X71.here hx rfl (pc0 := 107) (pc' := 111) rfl (hb hby at_107) (by decide) (by decide) k) ?_
    show Go _ _ _ _ _ T71 (mkF m 111 #[.val (.int p1), .val (.ref b35), .val (.int (5 : Int32)), .val (.ref w_GREATER_OR_EQUAL), .val (.int (1 : Int32)), .val (.int (1 : Int32)), .val (.int (1 : Int32))] [(.int (1 : Int32))])
    refine own_retN X71 hx (own_lvN X71 hlk (by decide) (by decide)) (t := .boolean) hret (by simp) (hb hby at_111) ?_
    exact ⟨rfl, N71⟩
set_option maxRecDepth 65536 in
set_option maxHeartbeats 40000000 in
theorem comes_1 {Post : Tables → Env → Array Value → State → Outcome → State → Prop} (hpost : ∀ tb e args s v u, (limb_1_1.after args s (.returned v) u = true ∧ limb_1_2.after args s (.returned v) u = true ∧ True) → FrameEnd s (.returned v) u (Jvm.fieldLocs frame_1_writes args s ++ Jvm.arrayLocs frame_1_arrays args s ++ Jvm.staticLocs frame_1_statics s) 16 128 → Post tb e args s (.returned v) u) :
    ArmFor flags0 classFile x code maxLocals ret World_1 tables_1 room_1 Calls_1 rest_1 Pre_1 Post := by
  intro l hfl _ _ p e ha hc hk s m args below hf hA hF happ hP
  obtain ⟨hcalls, hrest, hpre⟩ := hP
  obtain ⟨-, -, -, hnamed, -, -, -, hat⟩ := (Spec.applies_iff hf).mp happ
  obtain ⟨hg, hn⟩ := and_e (Cond.before_iff.mp (show (Jvm.Cond.and given_1 narrow_1).before args s = true from hpre))
  obtain ⟨g1, g2⟩ := and_e hg
  obtain ⟨w0, rfl⟩ : ∃ w0 : Value, args = #[w0] := by
    have hs : args.size = 1 := by simpa [Cond.value, given_1] using g1
    obtain ⟨L⟩ := args
    match L, hs with
    | [w0], _ => exact ⟨w0, rfl⟩
  have hw := fun d (hd : d ∈ tables_1) => atoms_spec (ws := Jvm.Cond.code x code maxLocals ret :: tables_1) hat d (List.mem_cons_of_mem _ hd)
  obtain ⟨i0, ei0⟩ := is_v g2
  obtain rfl : w0 = (.int i0) := Option.some.inj ei0
  obtain ⟨g3, g4⟩ := and_e hn
  obtain ⟨g5, g6⟩ := and_e g4
  obtain ⟨g7, g8⟩ := and_e g6
  obtain ⟨g9, g10⟩ := and_e g8
  obtain ⟨g11, g12⟩ := and_e g10
  obtain ⟨g13, g14⟩ := and_e g12
  obtain ⟨g15, g16⟩ := and_e g14
  obtain ⟨g17, g18⟩ := and_e g16
  obtain ⟨g19, g20⟩ := and_e g18
  obtain ⟨g21, g22⟩ := and_e g20
  obtain ⟨g23, g24⟩ := and_e g22
  obtain ⟨w_EQUAL, ew_EQUAL⟩ := exa_v g3
  have S_EQUAL : Sta s s.heap "com/example/tallyfold/tallyfold/expr/ComparisonOperator" "EQUAL" "Lcom/example/tallyfold/tallyfold/expr/ComparisonOperator;" (.ref w_EQUAL) := Sta.start ew_EQUAL (Or.inr ⟨(hw _ (List.mem_of_getElem? (i := 3) rfl)), (hw _ (List.mem_of_getElem? (i := 4) rfl))⟩)
  have E_EQUAL : Exa s s.heap w_EQUAL "com/example/tallyfold/tallyfold/expr/ComparisonOperator" := Exa.start ew_EQUAL g3
  have O_EQUAL_ordinal : Fld s s.heap w_EQUAL "java/lang/Enum" "ordinal" "I" (.int (0 : Int32)) := own_fld ew_EQUAL g15
  obtain ⟨w_NOT_EQUAL, ew_NOT_EQUAL⟩ := exa_v g5
  have S_NOT_EQUAL : Sta s s.heap "com/example/tallyfold/tallyfold/expr/ComparisonOperator" "NOT_EQUAL" "Lcom/example/tallyfold/tallyfold/expr/ComparisonOperator;" (.ref w_NOT_EQUAL) := Sta.start ew_NOT_EQUAL (Or.inr ⟨(hw _ (List.mem_of_getElem? (i := 3) rfl)), (hw _ (List.mem_of_getElem? (i := 7) rfl))⟩)
  have E_NOT_EQUAL : Exa s s.heap w_NOT_EQUAL "com/example/tallyfold/tallyfold/expr/ComparisonOperator" := Exa.start ew_NOT_EQUAL g5
  have O_NOT_EQUAL_ordinal : Fld s s.heap w_NOT_EQUAL "java/lang/Enum" "ordinal" "I" (.int (1 : Int32)) := own_fld ew_NOT_EQUAL g19
  obtain ⟨w_LESS, ew_LESS⟩ := exa_v g7
  have S_LESS : Sta s s.heap "com/example/tallyfold/tallyfold/expr/ComparisonOperator" "LESS" "Lcom/example/tallyfold/tallyfold/expr/ComparisonOperator;" (.ref w_LESS) := Sta.start ew_LESS (Or.inr ⟨(hw _ (List.mem_of_getElem? (i := 3) rfl)), (hw _ (List.mem_of_getElem? (i := 9) rfl))⟩)
  have E_LESS : Exa s s.heap w_LESS "com/example/tallyfold/tallyfold/expr/ComparisonOperator" := Exa.start ew_LESS g7
  have O_LESS_ordinal : Fld s s.heap w_LESS "java/lang/Enum" "ordinal" "I" (.int (2 : Int32)) := own_fld ew_LESS g21
  obtain ⟨w_LESS_OR_EQUAL, ew_LESS_OR_EQUAL⟩ := exa_v g9
  have S_LESS_OR_EQUAL : Sta s s.heap "com/example/tallyfold/tallyfold/expr/ComparisonOperator" "LESS_OR_EQUAL" "Lcom/example/tallyfold/tallyfold/expr/ComparisonOperator;" (.ref w_LESS_OR_EQUAL) := Sta.start ew_LESS_OR_EQUAL (Or.inr ⟨(hw _ (List.mem_of_getElem? (i := 3) rfl)), (hw _ (List.mem_of_getElem? (i := 11) rfl))⟩)
  have E_LESS_OR_EQUAL : Exa s s.heap w_LESS_OR_EQUAL "com/example/tallyfold/tallyfold/expr/ComparisonOperator" := Exa.start ew_LESS_OR_EQUAL g9
  have O_LESS_OR_EQUAL_ordinal : Fld s s.heap w_LESS_OR_EQUAL "java/lang/Enum" "ordinal" "I" (.int (3 : Int32)) := own_fld ew_LESS_OR_EQUAL g17
  obtain ⟨w_GREATER, ew_GREATER⟩ := exa_v g11
  have S_GREATER : Sta s s.heap "com/example/tallyfold/tallyfold/expr/ComparisonOperator" "GREATER" "Lcom/example/tallyfold/tallyfold/expr/ComparisonOperator;" (.ref w_GREATER) := Sta.start ew_GREATER (Or.inr ⟨(hw _ (List.mem_of_getElem? (i := 3) rfl)), (hw _ (List.mem_of_getElem? (i := 13) rfl))⟩)
  have E_GREATER : Exa s s.heap w_GREATER "com/example/tallyfold/tallyfold/expr/ComparisonOperator" := Exa.start ew_GREATER g11
  have O_GREATER_ordinal : Fld s s.heap w_GREATER "java/lang/Enum" "ordinal" "I" (.int (4 : Int32)) := own_fld ew_GREATER g24
  obtain ⟨w_GREATER_OR_EQUAL, ew_GREATER_OR_EQUAL⟩ := exa_v g13
  have S_GREATER_OR_EQUAL : Sta s s.heap "com/example/tallyfold/tallyfold/expr/ComparisonOperator" "GREATER_OR_EQUAL" "Lcom/example/tallyfold/tallyfold/expr/ComparisonOperator;" (.ref w_GREATER_OR_EQUAL) := Sta.start ew_GREATER_OR_EQUAL (Or.inr ⟨(hw _ (List.mem_of_getElem? (i := 3) rfl)), (hw _ (List.mem_of_getElem? (i := 15) rfl))⟩)
  have E_GREATER_OR_EQUAL : Exa s s.heap w_GREATER_OR_EQUAL "com/example/tallyfold/tallyfold/expr/ComparisonOperator" := Exa.start ew_GREATER_OR_EQUAL g13
  have O_GREATER_OR_EQUAL_ordinal : Fld s s.heap w_GREATER_OR_EQUAL "java/lang/Enum" "ordinal" "I" (.int (5 : Int32)) := own_fld ew_GREATER_OR_EQUAL g23
  obtain ⟨n, o, h1, h2, h3, _, L, rfl, ⟨rfl, N⟩, hq⟩ := rm0 l s _ hw tables_1 i0 w_EQUAL w_NOT_EQUAL w_LESS w_LESS_OR_EQUAL w_GREATER w_GREATER_OR_EQUAL  s.heap s.heap.size (Nat.le_refl _) S_EQUAL E_EQUAL O_EQUAL_ordinal S_NOT_EQUAL E_NOT_EQUAL O_NOT_EQUAL_ordinal S_LESS E_LESS O_LESS_ordinal S_LESS_OR_EQUAL E_LESS_OR_EQUAL O_LESS_OR_EQUAL_ordinal S_GREATER E_GREATER O_GREATER_ordinal S_GREATER_OR_EQUAL E_GREATER_OR_EQUAL O_GREATER_OR_EQUAL_ordinal  p e ha hc hk s m _ below hf ((Spec.applies_iff_loose hf).mp happ).1 ⟨rfl, State.Warmed39.refl s, rfl⟩ trivial
  refine ⟨n, _, h1, h2, h3, hpost _ _ _ _ _ _ ⟨Cond.after_iff.mpr rfl, Cond.after_iff.mpr (eq_i res_at (Term.int_eval (1)) rfl), trivial⟩ ⟨hq.1, hq.2.1, (hq.2.2.sift fun y hy => Or.inr (N y hy)).mono (by decide) (by decide)⟩⟩
theorem main_1_1 : Claimed_1_1 := comes_1 fun _ _ _ _ _ _ h hF => ⟨h.1, hF⟩
theorem main_1_2 : Claimed_1_2 := comes_1 fun _ _ _ _ _ _ h hF => ⟨h.2.1, hF⟩
end Jvm.Pilot.@@N@@
namespace Jvm.Pilot.@@N@@
open Jvm Jvm.ClassFile Sem Op Lib Jvm.Free Jvm.Stand Jvm.Pilot.@@N@@.Jvm.D
/-! MADE BY PROGRAM (witnessworld.py) out of the Statement's table words and the real class files: 13 classes; the members and pool entries that the words name. The judged class is class 1, her method 1. -/
namespace start1
open Jvm.ClassFile
def u (s : String) : CpInfo := .utf8 (stringToUtf16 s)
/-- a pool by its gaps: so many unusable entries, then the entry; so many at the end -/
def gap : Nat → List CpInfo → List CpInfo
  | 0, r => r
  | n + 1, r => .unusable :: gap n r
def poolList (es : List (Nat × CpInfo)) (last : Nat) : List CpInfo := es.foldr (fun e r => gap e.1 (e.2 :: r)) (gap last [])
def pool (es : List (Nat × CpInfo)) (last : Nat) : Array CpInfo := ⟨poolList es last⟩
def fileOf (pool : Array CpInfo) (this : Nat) (attrs : Array Attribute := #[]) (ms : Array MethodInfo := #[]) (fl : Nat := 33) (sup : Nat := 0) (ifs : Array Nat := #[]) (fds : Array FieldInfo := #[]) : ClassFile where
  minorVersion := 0
  majorVersion := 65
  constantPool := pool
  accessFlags := fl
  thisClass := this
  superClass := sup
  interfaces := ifs
  fields := fds
  methods := ms
  attributes := attrs
def plain (name : String) (sup : Option ClassId) : Class where
  name := name
  kind := .ordinary
  loader := none
  accessFlags := 33
  super := sup
  interfaces := #[]
  cf := none
  fields := #[]
  methods := #[]
  instanceTypes := #[]
  staticTypes := #[]
  resolved := #[]
  callSites := []
  init := .initialized
  statics := none
  mirror := none

def pool0 : Array CpInfo := pool [(5, u "<init>"), (0, u "()V"), (1, .class_ 10), (1, u "java/lang/Object")] 113

def k0m0 : Method := { name := "<init>", desc := "()V", sig := { parameters := [], returnType := none }, accessFlags := 1, code := none }
/-- java/lang/Object -/
def k0 : Class := { plain "java/lang/Object" none with
  accessFlags := 33
  interfaces := #[]
  cf := some (fileOf pool0 8 #[] #[{ accessFlags := 1, nameIndex := 5, descriptorIndex := 6, attributes := #[] }] 33 0 #[] #[])
  fields := #[]
  methods := #[k0m0]
  instanceTypes := #[]
  staticTypes := #[]
  resolved := Array.replicate 124 none
  statics := none }

def pool1 : Array CpInfo := pool [(2, .class_ 4), (1, u "java/lang/Object"), (0, u "<init>"), (0, u "()V"), (0, .class_ 8), (0, u "com/example/tallyfold/tallyfold/expr/ComparisonOperator"), (0, .fieldref 7 10), (0, .nameAndType 11 12), (0, u "EQUAL"), (0, u "Lcom/example/tallyfold/tallyfold/expr/ComparisonOperator;"), (0, .fieldref 7 14), (0, .nameAndType 15 12), (0, u "NOT_EQUAL"), (0, .fieldref 7 17), (0, .nameAndType 18 12), (0, u "LESS"), (0, .fieldref 7 20), (0, .nameAndType 21 12), (0, u "LESS_OR_EQUAL"), (0, .fieldref 7 23), (0, .nameAndType 24 12), (0, u "GREATER"), (0, .fieldref 7 26), (0, .nameAndType 27 12), (0, u "GREATER_OR_EQUAL"), (0, .integer 2147483647), (0, .methodref 7 30), (0, .nameAndType 31 32), (0, u "ordersValues"), (0, u "()Z"), (0, .methodref 7 34), (0, .nameAndType 35 36), (0, u "holds"), (0, u "(I)Z"), (0, .class_ 38), (0, u "com/example/tallyfold/tallyfold/expr/ComparisonOperatorOrdersValuesPinLaw"), (2, u "law")] 5

def k1m0 : Method := { name := "<init>", desc := "()V", sig := { parameters := [], returnType := none }, accessFlags := 2, code := none }
def k1c1 : Code := { maxStack := 4, maxLocals := 7, code := code, exceptionTable := #[], attributes := #[] }
def k1m1 : Method := { name := "law", desc := "(I)Z", sig := { parameters := [.int], returnType := some .boolean }, accessFlags := 9, code := some k1c1 }
/-- com/example/tallyfold/tallyfold/expr/ComparisonOperatorOrdersValuesPinLaw -/
def k1 : Class := { plain "com/example/tallyfold/tallyfold/expr/ComparisonOperatorOrdersValuesPinLaw" (some 0) with
  accessFlags := 49
  interfaces := #[]
  cf := some (fileOf pool1 37 #[] #[{ accessFlags := 2, nameIndex := 5, descriptorIndex := 6, attributes := #[] }, { accessFlags := 9, nameIndex := 41, descriptorIndex := 36, attributes := #[] }] 49 2 #[] #[])
  fields := #[]
  methods := #[k1m0, k1m1]
  instanceTypes := #[]
  staticTypes := #[]
  resolved := Array.replicate 47 none
  statics := none }

def pool2 : Array CpInfo := pool [(1, .class_ 2), (0, u "java/lang/constant/Constable"), (0, .class_ 4), (0, u "java/lang/Object")] 6

/-- java/lang/constant/Constable -/
def k2 : Class := { plain "java/lang/constant/Constable" (some 0) with
  accessFlags := 1537
  interfaces := #[]
  cf := some (fileOf pool2 1 #[] #[] 1537 3 #[] #[])
  fields := #[]
  methods := #[]
  instanceTypes := #[]
  staticTypes := #[]
  resolved := Array.replicate 11 none
  statics := none }

def pool3 : Array CpInfo := pool [(1, .class_ 2), (0, u "java/lang/Comparable"), (0, .class_ 4), (0, u "java/lang/Object")] 7

/-- java/lang/Comparable -/
def k3 : Class := { plain "java/lang/Comparable" (some 0) with
  accessFlags := 1537
  interfaces := #[]
  cf := some (fileOf pool3 1 #[] #[] 1537 3 #[] #[])
  fields := #[]
  methods := #[]
  instanceTypes := #[]
  staticTypes := #[]
  resolved := Array.replicate 12 none
  statics := none }

def pool4 : Array CpInfo := pool [(1, .class_ 2), (0, u "java/io/Serializable"), (0, .class_ 4), (0, u "java/lang/Object")] 2

/-- java/io/Serializable -/
def k4 : Class := { plain "java/io/Serializable" (some 0) with
  accessFlags := 1537
  interfaces := #[]
  cf := some (fileOf pool4 1 #[] #[] 1537 3 #[] #[])
  fields := #[]
  methods := #[]
  instanceTypes := #[]
  staticTypes := #[]
  resolved := Array.replicate 7 none
  statics := none }

def pool5 : Array CpInfo := pool [(2, .class_ 4), (1, u "java/lang/Enum"), (0, u "name"), (0, u "Ljava/lang/String;"), (0, .fieldref 2 8), (0, .nameAndType 9 10), (0, u "ordinal"), (0, u "I"), (1, .class_ 14), (1, u "java/lang/Object"), (4, u "hash"), (86, .class_ 108), (1, u "java/lang/Enum$EnumDesc"), (2, .class_ 112), (0, u "java/lang/constant/Constable"), (0, .class_ 114), (0, u "java/lang/Comparable"), (0, .class_ 116), (0, u "java/io/Serializable"), (9, u "()I")] 77

def k5c0 : Code := { maxStack := 1, maxLocals := 1, code := jdk_37_method_2_code, exceptionTable := #[], attributes := #[] }
def k5m0 : Method := { name := "ordinal", desc := "()I", sig := { parameters := [], returnType := some .int }, accessFlags := 17, code := some k5c0 }
/-- java/lang/Enum -/
def k5 : Class := { plain "java/lang/Enum" (some 0) with
  accessFlags := 1057
  interfaces := #[2, 3, 4]
  cf := some (fileOf pool5 2 #[.nestMembers #[106]] #[{ accessFlags := 17, nameIndex := 9, descriptorIndex := 126, attributes := #[] }] 1057 12 #[111, 113, 115] #[{ accessFlags := 18, nameIndex := 5, descriptorIndex := 6, attributes := #[] }, { accessFlags := 18, nameIndex := 9, descriptorIndex := 10, attributes := #[] }, { accessFlags := 2, nameIndex := 19, descriptorIndex := 10, attributes := #[] }])
  fields := #[{ name := "name", type := (.object "java/lang/String"), accessFlags := 18, slot := 0, constantValue := 0 }, { name := "ordinal", type := .int, accessFlags := 18, slot := 1, constantValue := 0 }, { name := "hash", type := .int, accessFlags := 2, slot := 2, constantValue := 0 }]
  methods := #[k5m0]
  instanceTypes := #[(.object "java/lang/String"), .int, .int]
  staticTypes := #[]
  resolved := Array.replicate 204 none
  statics := none }

def pool6 : Array CpInfo := pool [(1, .class_ 2), (0, u "com/example/tallyfold/tallyfold/expr/ComparisonOperator"), (0, .fieldref 1 4), (0, .nameAndType 5 6), (0, u "EQUAL"), (0, u "Lcom/example/tallyfold/tallyfold/expr/ComparisonOperator;"), (0, .fieldref 1 8), (0, .nameAndType 9 6), (0, u "NOT_EQUAL"), (2, u "LESS"), (2, u "LESS_OR_EQUAL"), (2, u "GREATER"), (2, u "GREATER_OR_EQUAL"), (2, u "$VALUES"), (0, u "[Lcom/example/tallyfold/tallyfold/expr/ComparisonOperator;"), (6, .class_ 34), (1, u "java/lang/Enum"), (11, u "()I"), (20, .methodref 1 68), (0, .nameAndType 69 46), (0, u "ordinal"), (42, u "()Z"), (25, u "ordersValues"), (0, u "holds"), (0, u "(I)Z")] 6

def k6c0 : Code := { maxStack := 2, maxLocals := 1, code := prog_33_method_5_code, exceptionTable := #[], attributes := #[] }
def k6m0 : Method := { name := "ordersValues", desc := "()Z", sig := { parameters := [], returnType := some .boolean }, accessFlags := 0, code := some k6c0 }
def k6c1 : Code := { maxStack := 4, maxLocals := 2, code := prog_33_method_6_code, exceptionTable := #[], attributes := #[] }
def k6m1 : Method := { name := "holds", desc := "(I)Z", sig := { parameters := [.int], returnType := some .boolean }, accessFlags := 0, code := some k6c1 }
/-- com/example/tallyfold/tallyfold/expr/ComparisonOperator -/
def k6 : Class := { plain "com/example/tallyfold/tallyfold/expr/ComparisonOperator" (some 5) with
  accessFlags := 16433
  interfaces := #[]
  cf := some (fileOf pool6 1 #[] #[{ accessFlags := 0, nameIndex := 138, descriptorIndex := 112, attributes := #[] }, { accessFlags := 0, nameIndex := 139, descriptorIndex := 140, attributes := #[] }] 16433 32 #[] #[{ accessFlags := 16409, nameIndex := 5, descriptorIndex := 6, attributes := #[] }, { accessFlags := 16409, nameIndex := 9, descriptorIndex := 6, attributes := #[] }, { accessFlags := 16409, nameIndex := 12, descriptorIndex := 6, attributes := #[] }, { accessFlags := 16409, nameIndex := 15, descriptorIndex := 6, attributes := #[] }, { accessFlags := 16409, nameIndex := 18, descriptorIndex := 6, attributes := #[] }, { accessFlags := 16409, nameIndex := 21, descriptorIndex := 6, attributes := #[] }, { accessFlags := 4122, nameIndex := 24, descriptorIndex := 25, attributes := #[] }])
  fields := #[{ name := "EQUAL", type := (.object "com/example/tallyfold/tallyfold/expr/ComparisonOperator"), accessFlags := 16409, slot := 0, constantValue := 0 }, { name := "NOT_EQUAL", type := (.object "com/example/tallyfold/tallyfold/expr/ComparisonOperator"), accessFlags := 16409, slot := 1, constantValue := 0 }, { name := "LESS", type := (.object "com/example/tallyfold/tallyfold/expr/ComparisonOperator"), accessFlags := 16409, slot := 2, constantValue := 0 }, { name := "LESS_OR_EQUAL", type := (.object "com/example/tallyfold/tallyfold/expr/ComparisonOperator"), accessFlags := 16409, slot := 3, constantValue := 0 }, { name := "GREATER", type := (.object "com/example/tallyfold/tallyfold/expr/ComparisonOperator"), accessFlags := 16409, slot := 4, constantValue := 0 }, { name := "GREATER_OR_EQUAL", type := (.object "com/example/tallyfold/tallyfold/expr/ComparisonOperator"), accessFlags := 16409, slot := 5, constantValue := 0 }, { name := "$VALUES", type := (.array (.object "com/example/tallyfold/tallyfold/expr/ComparisonOperator")), accessFlags := 4122, slot := 6, constantValue := 0 }]
  methods := #[k6m0, k6m1]
  instanceTypes := #[(.object "java/lang/String"), .int, .int]
  staticTypes := #[(.object "com/example/tallyfold/tallyfold/expr/ComparisonOperator"), (.object "com/example/tallyfold/tallyfold/expr/ComparisonOperator"), (.object "com/example/tallyfold/tallyfold/expr/ComparisonOperator"), (.object "com/example/tallyfold/tallyfold/expr/ComparisonOperator"), (.object "com/example/tallyfold/tallyfold/expr/ComparisonOperator"), (.object "com/example/tallyfold/tallyfold/expr/ComparisonOperator"), (.array (.object "com/example/tallyfold/tallyfold/expr/ComparisonOperator"))]
  resolved := Array.replicate 147 none
  statics := some 0 }

def pool7 : Array CpInfo := pool [(1, u "java/lang/Cloneable"), (0, .class_ 1), (0, u "java/lang/Object"), (0, .class_ 3)] 3

/-- java/lang/Cloneable -/
def k7 : Class := { plain "java/lang/Cloneable" (some 0) with
  accessFlags := 1537
  interfaces := #[]
  cf := some (fileOf pool7 2 #[] #[] 1537 4 #[] #[])
  fields := #[]
  methods := #[]
  instanceTypes := #[]
  staticTypes := #[]
  resolved := Array.replicate 8 none
  statics := none }

/-- the primitive byte -/
def k8 : Class := { plain "byte" none with kind := .primitive 'B', accessFlags := 0x411 }
/-- [B -/
def k9 : Class := { plain "[B" (some 0) with kind := .array 8 .byte, interfaces := #[7, 4], accessFlags := 1041 }

/-- the primitive int -/
def k10 : Class := { plain "int" none with kind := .primitive 'I', accessFlags := 0x411 }
/-- [I -/
def k11 : Class := { plain "[I" (some 0) with kind := .array 10 .int, interfaces := #[7, 4], accessFlags := 1041 }

/-- [Lcom/example/tallyfold/tallyfold/expr/ComparisonOperator; -/
def k12 : Class := { plain "[Lcom/example/tallyfold/tallyfold/expr/ComparisonOperator;" (some 0) with kind := .array 6 (.object "com/example/tallyfold/tallyfold/expr/ComparisonOperator"), interfaces := #[7, 4], accessFlags := 1041 }

def heap : Heap := #[{ cls := 6, slots := #[.ref 1, .ref 2, .ref 3, .ref 4, .ref 5, .ref 6, .null], vm := .statics 6 },
  { cls := 6, slots := #[.null, .int 0, .int 0], vm := .none },
  { cls := 6, slots := #[.null, .int 1, .int 0], vm := .none },
  { cls := 6, slots := #[.null, .int 2, .int 0], vm := .none },
  { cls := 6, slots := #[.null, .int 3, .int 0], vm := .none },
  { cls := 6, slots := #[.null, .int 4, .int 0], vm := .none },
  { cls := 6, slots := #[.null, .int 5, .int 0], vm := .none }]
def classes : Array Class := #[k0, k1, k2, k3, k4, k5, k6, k7, k8, k9, k10, k11, k12]
def interned : List (Array UInt16 × Addr) := []
def slotsUsed : Nat := 25
def theMethod : MethodId := ⟨1, 1⟩
def args0 : Array Value := #[.int 5]
def aboutOver (below : List Frame) : State where
  vm := { classes := classes, interned := interned.toArray }
  heap := heap
  slotsUsed := slotsUsed
  threads := #[{ frames := .invoking theMethod args0 :: below }]
def below0 : List Frame := [.native { method := ⟨0, 0⟩, args := #[] }]
def about1 : State := aboutOver below0
def p0 : Program := .bare "" "" ""
def e0 : Env := launch0.env 0 0 0
theorem w_frames : about1.frames = Frame.invoking theMethod args0 :: below0 := rfl
set_option maxRecDepth 65536 in
theorem w_args : argsFit about1.vm theMethod args0 = true := by decide +kernel
set_option maxRecDepth 65536 in
theorem w_heap : heapFits about1 = true := by decide +kernel
set_option maxRecDepth 65536 in
theorem w_runnable : about1.curStatus? = some .runnable := by decide +kernel
set_option maxRecDepth 65536 in
theorem w_alone : about1.alone = true := by decide +kernel
set_option maxRecDepth 65536 in
theorem w_named : about1.methodNamed? x = some theMethod := by decide +kernel
set_option maxRecDepth 65536 in
theorem w_hears : about1.hears theMethod below0 = true := by decide +kernel
set_option maxRecDepth 65536 in
theorem w_ripe : about1.ripe theMethod args0 below0 = true := by decide +kernel
theorem w_running : about1.status = .running := rfl
set_option maxRecDepth 65536 in
theorem w_room : about1.hasRoom e0.platform room_1 = true :=
  launch0.hasRoom_least _ room_1 (by decide +kernel) (by decide +kernel) (by decide +kernel) (by decide +kernel) (by decide +kernel) (by decide +kernel)
theorem allAtoms_all (ts : List Jvm.Cond) (a : Array Jvm.Value) (st : Jvm.State) : (allAtoms ts).before a st = ts.all (fun c => c.before a st) := by
  induction ts with
  | nil => rfl
  | cons c t ih =>
    show (Jvm.Cond.and c (allAtoms t)).before a st = _
    rw [Jvm.Cond.before_and, ih, List.all_cons]
def words1 : List Jvm.Cond := Jvm.Cond.code x code maxLocals ret :: tables_1
/-- a 'code' word, met by the world's own term for the bytes: nothing is compared byte by byte -/
theorem code_word {y : MethodName} {bytes : ByteArray} {mx : Nat} {rt : Option FieldType} {a : Array Value} {s : State} {m : MethodId} {meth : Method} {c : Code} (h1 : s.methodNamed? y = some m) (h2 : s.vm.method? m = some meth) (h3 : meth.code = some c) (h4 : c.code = bytes)
    (h5 : (c.maxLocals == mx && c.exceptionTable.isEmpty && decide (c.maxStack ≤ mostOperands) && decide (meth.sig.returnType = rt) && !meth.locks && decide (parseMethodDescriptor y.desc = some meth.sig)) = true) : (Jvm.Cond.code y bytes mx rt).before a s = true := by
  simp only [Bool.and_eq_true, beq_iff_eq, Bool.not_eq_true', decide_eq_true_eq] at h5
  obtain ⟨⟨⟨⟨⟨g1, g2⟩, g3⟩, g4⟩, g5⟩, g6⟩ := h5
  simp [Cond.before, Cond.holds, Cond.value, h1, h2, h3, h4, g1, g2, g3, g4, g5, g6]
def isCode : Jvm.Cond → Bool
  | .code _ _ _ _ => true
  | _ => false
theorem all_split {L : List Jvm.Cond} {P : Jvm.Cond → Bool} (h1 : L.all (fun c => isCode c || P c) = true) (h2 : ∀ c ∈ L.filter isCode, P c = true) : L.all P = true := by
  refine List.all_eq_true.mpr fun c hc => ?_
  have h := List.all_eq_true.mp h1 c hc
  rcases Bool.eq_false_or_eq_true (isCode c) with hi | hi
  · exact h2 c (List.mem_filter.mpr ⟨hc, hi⟩)
  · simpa [hi] using h
set_option maxRecDepth 65536 in
theorem w_c0 : (Jvm.Cond.code x code maxLocals ret).before args0 about1 = true := code_word (m := ⟨1, 1⟩) (meth := k1m1) (c := k1c1) (by decide +kernel) rfl rfl rfl (by decide +kernel)
set_option maxRecDepth 65536 in
theorem w_c1 : (Jvm.Cond.code ({ cls := "com/example/tallyfold/tallyfold/expr/ComparisonOperator", name := "ordersValues", desc := "()Z" } : Jvm.MethodName) prog_33_method_5_code (1 : Nat) (Option.some Jvm.ClassFile.FieldType.boolean)).before args0 about1 = true := code_word (m := ⟨6, 0⟩) (meth := k6m0) (c := k6c0) (by decide +kernel) rfl rfl rfl (by decide +kernel)
set_option maxRecDepth 65536 in
theorem w_c2 : (Jvm.Cond.code ({ cls := "com/example/tallyfold/tallyfold/expr/ComparisonOperator", name := "holds", desc := "(I)Z" } : Jvm.MethodName) prog_33_method_6_code (2 : Nat) (Option.some Jvm.ClassFile.FieldType.boolean)).before args0 about1 = true := code_word (m := ⟨6, 1⟩) (meth := k6m1) (c := k6c1) (by decide +kernel) rfl rfl rfl (by decide +kernel)
set_option maxRecDepth 65536 in
theorem w_c3 : (Jvm.Cond.code ({ cls := "java/lang/Enum", name := "ordinal", desc := "()I" } : Jvm.MethodName) jdk_37_method_2_code (1 : Nat) (Option.some Jvm.ClassFile.FieldType.int)).before args0 about1 = true := code_word (m := ⟨5, 0⟩) (meth := k5m0) (c := k5c0) (by decide +kernel) rfl rfl rfl (by decide +kernel)
def codes1 : List Jvm.Cond := [Jvm.Cond.code x code maxLocals ret, Jvm.Cond.code ({ cls := "com/example/tallyfold/tallyfold/expr/ComparisonOperator", name := "ordersValues", desc := "()Z" } : Jvm.MethodName) prog_33_method_5_code (1 : Nat) (Option.some Jvm.ClassFile.FieldType.boolean), Jvm.Cond.code ({ cls := "com/example/tallyfold/tallyfold/expr/ComparisonOperator", name := "holds", desc := "(I)Z" } : Jvm.MethodName) prog_33_method_6_code (2 : Nat) (Option.some Jvm.ClassFile.FieldType.boolean), Jvm.Cond.code ({ cls := "java/lang/Enum", name := "ordinal", desc := "()I" } : Jvm.MethodName) jdk_37_method_2_code (1 : Nat) (Option.some Jvm.ClassFile.FieldType.int)]
set_option maxRecDepth 65536 in
theorem codes_eq : words1.filter isCode = codes1 := rfl
theorem w_codes : ∀ c ∈ words1.filter isCode, c.before args0 about1 = true := by
  rw [codes_eq]
  intro c hc
  simp only [codes1, List.mem_cons, List.not_mem_nil, or_false] at hc
  rcases hc with rfl | rfl | rfl | rfl
  · exact w_c0
  · exact w_c1
  · exact w_c2
  · exact w_c3
set_option maxRecDepth 65536 in
theorem w_t1 : (words1.take 24).all (fun c => isCode c || c.before args0 about1) = true := by decide +kernel
set_option maxRecDepth 65536 in
theorem w_t2 : (words1.drop 24).all (fun c => isCode c || c.before args0 about1) = true := by decide +kernel
theorem w_tables : (allAtoms (Jvm.Cond.code x code maxLocals ret :: tables_1)).before args0 about1 = true := by
  rw [allAtoms_all]
  show words1.all (fun c => c.before args0 about1) = true
  refine all_split ?_ w_codes
  rw [← List.take_append_drop 24 words1, List.all_append, w_t1, w_t2]
  rfl
set_option maxRecDepth 65536 in
theorem w_case : (Jvm.Cond.and given_1 narrow_1).before args0 about1 = true := by decide +kernel
theorem w_applies : (headSpec (Jvm.Cond.code x code maxLocals ret :: tables_1) room_1).applies x e0.platform about1 = true :=
  (Spec.applies_iff w_frames).mpr ⟨w_running, w_runnable, w_alone, w_named, w_hears, w_ripe, w_room, w_tables⟩
theorem atStart : AtStart classFile x code maxLocals ret World_1 tables_1 room_1 Calls_1 rest_1 Pre_1 launch0 p0 e0 about1 theMethod args0 below0 :=
  ⟨lists_1, trivial, launch0.admits_env _ _ _, launch0.least_env, fairChoices_fair.cas, fairChoices_fair.clock, w_frames, w_args, w_heap, w_applies, trivial, trivial, w_case⟩
end start1
theorem witness_1 : WitnessClaimed_1 := ⟨start1.p0, start1.e0, start1.about1, start1.theMethod, start1.args0, start1.below0, start1.atStart⟩
end Jvm.Pilot.@@N@@
