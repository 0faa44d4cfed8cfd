import JvmDerived
import JvmDerived.Pilot.@@N@@Statement
import JvmDerived.Pilot.@@N@@Code
set_option linter.unusedVariables false
set_option linter.unusedSimpArgs false
namespace Jvm.Pilot.@@N@@
open Jvm Jvm.ClassFile Sem Op Lib Jvm.Free Jvm.Stand Jvm.LawKit Jvm.RoadKit Bundle Jvm.Pilot.@@N@@.Jvm.D
/-! own kit: the walk in continuation form: 'Go': from this point the body comes to its end with what Q says -/
section OwnGo
variable {p : Program} {l : Launch} {e : Env} {R : Room} {s : State} {m : MethodId} {args : Array Value} {below : List Frame} {meth : Method} {c : Code} {T : State} {locs : List Loc} {cells slots : Nat} {Z : State} {a0 : Array Value} {h : Heap} {Q : Option Value → Heap → List Loc → Prop} {C S : Nat} {End : Outcome → State → List Loc → Prop}
def Go (p : Program) (e : Env) (below : List Frame) (End : Outcome → State → List Loc → Prop) (Q : Option Value → Heap → List Loc → Prop) (T : State) (f : JFrame) : Prop :=
  ∃ s₂ o, Steps p.tables e below (T.setTop f) s₂ ∧ s₂.status = .running ∧ Ended s₂ below o ∧ ∃ v L, o = .returned v ∧ Q v s₂.heap L ∧ End o s₂ L
/-- the end of a walk that leaves the table of strings alone, and of one that may not -/
def EndN (s : State) (C S : Nat) : Outcome → State → List Loc → Prop := fun o t L => FrameEnd s o t L C S
def EndW (s : State) (C S : Nat) : Outcome → State → List Loc → Prop := fun o t L => ReturnedEndW s o t L C S
def OwnP (val : Option Value) (h0 : Heap) (n0 : Nat) (v : Option Value) (h : Heap) (L : List Loc) : Prop := v = val ∧ Fr n0 L ∧ h = h0
def OwnR (val : Option Value) (n0 : Nat) (v : Option Value) (h : Heap) (L : List Loc) : Prop := v = val ∧ Fr n0 L
abbrev OwnMet (l : Launch) (Z : State) (y : MethodName) (bytes : ByteArray) (maxL : Nat) (ret : Option FieldType) (ws : List Jvm.Cond) (rm : Room) (as' : Array Value) (h0 : Heap) (Q : Option Value → Heap → List Loc → Prop) : Prop :=
  MetFree l y (head1 (Jvm.Cond.code y bytes maxL ret :: ws) rm) (fun a U => a = as' ∧ Z.Warmed39 U.vm ∧ U.heap = h0) (fun _ _ _ _ _ => True) (fun _ U o U' => ∃ v L, o = .returned v ∧ Q v U'.heap L ∧ FrameEnd U o U' L rm.cells rm.slots)
theorem own_body {y : MethodName} {bytes : ByteArray} {maxL : Nat} {ret : Option FieldType} {ws : List Jvm.Cond} {rm : Room} {as' : Array Value} {h0 : Heap} (hpl : plainFor y = true)
    (k : ∀ (p : Program) (e : Env) (s : State) (m : MethodId) (below : List Frame) (meth : Method) (c : Code) (s₁ : State), Stand p l e rm s m as' below meth c s₁ [] 0 0 → p.tables.exec = Jvm.exec → c.code = bytes → c.maxLocals = maxL → meth.sig.returnType = ret → meth.locks = false → s.vm.findClass y.cls = some m.cls → meth.name = y.name → Z.Warmed39 s.vm → s₁.heap = h0 → s.heap = h0 → Go p e below (EndN s rm.cells rm.slots) Q s₁ (entryFrame m as' maxL)) :
    OwnMet l Z y bytes maxL ret ws rm as' h0 Q := by
  refine MetFree.of_bodySF hpl hisR ?_
  intro p e s m args below meth c s₁ Bd hml0 hP hK
  obtain ⟨rfl, hZ, hh⟩ := hP
  exact k p e s m below meth c s₁ (Stand.of_body Bd) Bd.exec Bd.bytes hml0 Bd.returns Bd.notSynchronized (findClass_of_methodNamed Bd.named) (name_of_methodNamed Bd.named Bd.method).1 hZ (by rw [← hh, Bd.state]; rfl) hh
theorem own_go {T' : State} {f f' : JFrame} (k : ∀ t, Steps p.tables e below (T'.setTop f') t → Steps p.tables e below (T.setTop f) t) (G : Go p e below End Q T' f') : Go p e below End Q T f := by
  obtain ⟨s₂, o, hs, r⟩ := G
  exact ⟨s₂, o, k _ hs, r⟩
theorem own_entry {f : JFrame} {f' : JFrame} (q : f = f') (G : Go p e below End Q T f') : Go p e below End Q T f := q ▸ G
/-- the method can be left here -/
def Leaves (e : Env) (below : List Frame) (m : MethodId) (meth : Method) (T : State) (locs : List Loc) (End : Outcome → State → List Loc → Prop) : Prop :=
  ∀ v : Option Value, (meth.sig.returnType = none → v = none) → ∃ fs, (∀ (f : JFrame) (acts : List Action), f.method = m → f.locked = none → f.entered = [] → (doReturn e (T.setTop f) acts v).1 = T.setFrames fs) ∧ (T.setFrames fs).status = .running ∧ Ended (T.setFrames fs) below (.returned v) ∧ End (.returned v) (T.setFrames fs) locs
theorem own_lvN (X : Stand p l e R s m args below meth c T locs cells slots) (hlk : meth.locks = false) (hC : cells ≤ C) (hS : slots ≤ S) : Leaves e below m meth T locs (EndN s C S) := fun v hv => by
  obtain ⟨fs, hr, hrun, hended, hW, hsame⟩ := X.leave hv hlk
  exact ⟨fs, hr, hrun, hended, ⟨_, rfl⟩, hW, hsame.mono hC hS⟩
theorem own_leave {v : Option Value} (LV : Leaves e below m meth T locs End) (hv : meth.sig.returnType = none → v = none) {f : JFrame}
    (st : ∀ fs, (∀ (f : JFrame) (acts : List Action), f.method = m → f.locked = none → f.entered = [] → (doReturn e (T.setTop f) acts v).1 = T.setFrames fs) → Steps p.tables e below (T.setTop f) (T.setFrames fs))
    (hQ : Q v T.heap locs) : Go p e below End Q T f := by
  obtain ⟨fs, hr, hrun, hended, hE⟩ := LV v hv
  exact ⟨_, _, st fs hr, hrun, hended, _, _, rfl, hQ, hE⟩
theorem own_retN (X : Stand p l e R s m args below meth c T locs cells slots) (hx : p.tables.exec = Jvm.exec) (LV : Leaves e below m meth T locs End) {pc : Nat} {Ls : Array Slot} {z : Int32} {t : FieldType} {rest : List Value} (hret : meth.sig.returnType = some t) (ht : t = .boolean ∨ t = .byte ∨ t = .char ∨ t = .short)
    (hd : decode c.code pc = .ok (.ireturn, 1)) (hQ : Q (some (.int (nar t z))) T.heap locs) : Go p e below End Q T (mkF m pc Ls (.int z :: rest)) :=
  own_leave LV (fun h => by rw [hret] at h; cases h) (fun fs hr => retN X hx hret ht hd hr) hQ
theorem own_retO (X : Stand p l e R s m args below meth c T locs cells slots) (hx : p.tables.exec = Jvm.exec) (LV : Leaves e below m meth T locs End) {pc : Nat} {Ls : Array Slot} {w : Value} {t : FieldType} {i : Instr} {rest : List Value} (hret : meth.sig.returnType = some t) (hn : narrow t w = w)
    (hi : (i = .ireturn ∧ (t = .int ∨ t = .boolean ∨ t = .byte ∨ t = .char ∨ t = .short) ∧ ∃ z, w = .int z) ∨ (i = .lreturn ∧ t = .long ∧ ∃ z, w = .long z) ∨ (i = .dreturn ∧ t = .double ∧ ∃ z, w = .double z) ∨ (i = .freturn ∧ t = .float ∧ ∃ z, w = .float z) ∨ (i = .areturn ∧ t.isReference = true ∧ w.isRef = true))
    (hd : decode c.code pc = .ok (i, 1)) (hQ : Q (some w) T.heap locs) : Go p e below End Q T (mkF m pc Ls (w :: rest)) :=
  own_leave LV (fun h => by rw [hret] at h; cases h) (fun fs hr => retOut X hx hret hn hi hd hr) hQ
theorem own_retI (X : Stand p l e R s m args below meth c T locs cells slots) (hx : p.tables.exec = Jvm.exec) (LV : Leaves e below m meth T locs End) {pc : Nat} {Ls : Array Slot} {z : Int32} {rest : List Value} (hret : meth.sig.returnType = some .int)
    (hd : decode c.code pc = .ok (.ireturn, 1)) (hQ : Q (some (.int z)) T.heap locs) : Go p e below End Q T (mkF m pc Ls (.int z :: rest)) :=
  own_retO X hx LV hret rfl (Or.inl ⟨rfl, Or.inl rfl, z, rfl⟩) hd hQ
theorem own_retL (X : Stand p l e R s m args below meth c T locs cells slots) (hx : p.tables.exec = Jvm.exec) (LV : Leaves e below m meth T locs End) {pc : Nat} {Ls : Array Slot} {z : Int64} {rest : List Value} (hret : meth.sig.returnType = some .long)
    (hd : decode c.code pc = .ok (.lreturn, 1)) (hQ : Q (some (.long z)) T.heap locs) : Go p e below End Q T (mkF m pc Ls (.long z :: rest)) :=
  own_retO X hx LV hret rfl (Or.inr (Or.inl ⟨rfl, rfl, z, rfl⟩)) hd hQ
theorem own_retA (X : Stand p l e R s m args below meth c T locs cells slots) (hx : p.tables.exec = Jvm.exec) (LV : Leaves e below m meth T locs End) {pc : Nat} {Ls : Array Slot} {w : Value} {t : FieldType} {rest : List Value} (hret : meth.sig.returnType = some t) (ht : t.isReference = true) (hw : w.isRef = true)
    (hd : decode c.code pc = .ok (.areturn, 1)) (hQ : Q (some w) T.heap locs) : Go p e below End Q T (mkF m pc Ls (w :: rest)) :=
  own_retO X hx LV hret (by cases t <;> first | (cases w <;> first | rfl | cases hw) | cases ht) (Or.inr (Or.inr (Or.inr (Or.inr ⟨rfl, ht, hw⟩)))) hd hQ
theorem own_retV (X : Stand p l e R s m args below meth c T locs cells slots) (hx : p.tables.exec = Jvm.exec) (LV : Leaves e below m meth T locs End) {pc : Nat} {Ls : Array Slot} (hret : meth.sig.returnType = none)
    (hd : decode c.code pc = .ok (.return_, 1)) (hQ : Q none T.heap locs) : Go p e below End Q T (mkF m pc Ls []) :=
  own_leave LV (fun _ => rfl) (fun fs hr => X.returnOut hx hret hd hr) hQ
/-- a branch: taken where P -/
theorem own_icmpP (P : Prop) [Decidable P] (X : Stand p l e R s m args below meth c T locs cells slots) (hx : p.tables.exec = Jvm.exec) {cd : ClassFile.Cond} {x y : Int32} {rest : List Value} {o : Int} {pc pc' : Nat} {Ls : Array Slot} (hd : decode c.code pc = .ok (.if_icmp cd o, 3)) (hP : if_icmp.holds cd x y = decide P) (ho : 0 ≤ (pc : Int) + o) (hp : ((pc : Int) + o).toNat = pc')
    (h1 : P → Go p e below End Q T (mkF m pc' Ls rest)) (h2 : ¬ P → Go p e below End Q T (mkF m (pc + 3) Ls rest)) : Go p e below End Q T (mkF m pc Ls (.int y :: .int x :: rest)) := by
  by_cases q : P
  · exact own_go (fun t k => XS.icmpYes X.here hx rfl (pc0 := pc) (pc' := pc') rfl hd rfl (by rw [hP]; exact decide_eq_true q) ho hp k) (h1 q)
  · exact own_go (fun t k => XS.icmpNo X.here hx rfl hd rfl (by rw [hP]; exact decide_eq_false q) k) (h2 q)
/-- a branch: taken where not P -/
theorem own_icmpM (P : Prop) [Decidable P] (X : Stand p l e R s m args below meth c T locs cells slots) (hx : p.tables.exec = Jvm.exec) {cd : ClassFile.Cond} {x y : Int32} {rest : List Value} {o : Int} {pc pc' : Nat} {Ls : Array Slot} (hd : decode c.code pc = .ok (.if_icmp cd o, 3)) (hP : if_icmp.holds cd x y = !decide P) (ho : 0 ≤ (pc : Int) + o) (hp : ((pc : Int) + o).toNat = pc')
    (h1 : ¬ P → Go p e below End Q T (mkF m pc' Ls rest)) (h2 : P → Go p e below End Q T (mkF m (pc + 3) Ls rest)) : Go p e below End Q T (mkF m pc Ls (.int y :: .int x :: rest)) := by
  by_cases q : P
  · exact own_go (fun t k => XS.icmpNo X.here hx rfl hd rfl (by rw [hP]; simp [q]) k) (h2 q)
  · exact own_go (fun t k => XS.icmpYes X.here hx rfl (pc0 := pc) (pc' := pc') rfl hd rfl (by rw [hP]; simp [q]) ho hp k) (h1 q)
theorem own_ifP (P : Prop) [Decidable P] (X : Stand p l e R s m args below meth c T locs cells slots) (hx : p.tables.exec = Jvm.exec) {cd : ClassFile.Cond} {x : Int32} {rest : List Value} {o : Int} {pc pc' : Nat} {Ls : Array Slot} (hd : decode c.code pc = .ok (.ifCond cd o, 3)) (hP : if_icmp.holds cd x 0 = decide P) (ho : 0 ≤ (pc : Int) + o) (hp : ((pc : Int) + o).toNat = pc')
    (h1 : P → Go p e below End Q T (mkF m pc' Ls rest)) (h2 : ¬ P → Go p e below End Q T (mkF m (pc + 3) Ls rest)) : Go p e below End Q T (mkF m pc Ls (.int x :: rest)) := by
  by_cases q : P
  · exact own_go (fun t k => XS.ifYes X.here hx rfl (pc0 := pc) (pc' := pc') rfl hd rfl (by rw [if0, hP]; exact decide_eq_true q) ho hp k) (h1 q)
  · exact own_go (fun t k => XS.ifNo X.here hx rfl hd rfl (by rw [if0, hP]; exact decide_eq_false q) k) (h2 q)
theorem own_ifM (P : Prop) [Decidable P] (X : Stand p l e R s m args below meth c T locs cells slots) (hx : p.tables.exec = Jvm.exec) {cd : ClassFile.Cond} {x : Int32} {rest : List Value} {o : Int} {pc pc' : Nat} {Ls : Array Slot} (hd : decode c.code pc = .ok (.ifCond cd o, 3)) (hP : if_icmp.holds cd x 0 = !decide P) (ho : 0 ≤ (pc : Int) + o) (hp : ((pc : Int) + o).toNat = pc')
    (h1 : ¬ P → Go p e below End Q T (mkF m pc' Ls rest)) (h2 : P → Go p e below End Q T (mkF m (pc + 3) Ls rest)) : Go p e below End Q T (mkF m pc Ls (.int x :: rest)) := by
  by_cases q : P
  · exact own_go (fun t k => XS.ifNo X.here hx rfl hd rfl (by rw [if0, hP]; simp [q]) k) (h2 q)
  · exact own_go (fun t k => XS.ifYes X.here hx rfl (pc0 := pc) (pc' := pc') rfl hd rfl (by rw [if0, hP]; simp [q]) ho hp k) (h1 q)
theorem own_eq (x y : Int32) : if_icmp.holds .eq x y = decide (x = y) := by by_cases q : x = y <;> simp [if_icmp.holds, q]
theorem own_ne (x y : Int32) : if_icmp.holds .ne x y = !decide (x = y) := by by_cases q : x = y <;> simp [if_icmp.holds, q]
theorem own_lt (x y : Int32) : if_icmp.holds .lt x y = decide (x < y) := by by_cases q : x < y <;> simp [if_icmp.holds, q]
theorem own_ge (x y : Int32) : if_icmp.holds .ge x y = !decide (x < y) := by
  by_cases q : x < y
  · rw [(tlt q).2.1]; simp [q]
  · rw [(flt q).2.1]; simp [q]
theorem own_gt (x y : Int32) : if_icmp.holds .gt x y = decide (y < x) := by
  by_cases q : y < x
  · rw [(tlt q).2.2.1]; simp [q]
  · rw [(flt q).2.2.1]; simp [q]
theorem own_le (x y : Int32) : if_icmp.holds .le x y = !decide (y < x) := by
  by_cases q : y < x
  · rw [(tlt q).2.2.2]; simp [q]
  · rw [(flt q).2.2.2]; simp [q]
theorem own_acmp (P : Prop) [Decidable P] (X : Stand p l e R s m args below meth c T locs cells slots) (hx : p.tables.exec = Jvm.exec) {cd : ACond} {x y : Value} {rest : List Value} {o : Int} {pc : Nat} {Ls : Array Slot} (h1 : x.isRef = true) (h2 : y.isRef = true) (hP : (x = y) ↔ P) (hd : decode c.code pc = .ok (.if_acmp cd o, 3)) (ho : 0 ≤ (pc : Int) + o) {pcE pcN : Nat}
    (hE : pcE = if acV cd true = true then ((pc : Int) + o).toNat else pc + 3) (hN : pcN = if acV cd false = true then ((pc : Int) + o).toNat else pc + 3)
    (k1 : P → Go p e below End Q T (mkF m pcE Ls rest)) (k2 : ¬ P → Go p e below End Q T (mkF m pcN Ls rest)) : Go p e below End Q T (mkF m pc Ls (y :: x :: rest)) := by
  by_cases q : P
  · exact own_go (fun t k => Jvm.RoadKit.acmp (g := mkF m pc Ls (y :: x :: rest)) X hx rfl h1 h2 (pc0 := pc) (pc' := pcE) (same := true) rfl hd rfl (decide_eq_true (hP.mpr q)) ho hE k) (k1 q)
  · exact own_go (fun t k => Jvm.RoadKit.acmp (g := mkF m pc Ls (y :: x :: rest)) X hx rfl h1 h2 (pc0 := pc) (pc' := pcN) (same := false) rfl hd rfl (decide_eq_false fun z => q (hP.mp z)) ho hN k) (k2 q)
theorem own_ref (a b : Addr) : (Value.ref a = Value.ref b) ↔ (a = b) := ⟨Value.ref.inj, congrArg Value.ref⟩
theorem own_callS (X : Stand p l e R s m args below meth c T locs cells slots) (hx : p.tables.exec = Jvm.exec) (hZ : Z.Warmed39 s.vm) {own : String} {index : Nat} {y : MethodName} {bytes : ByteArray} {maxL : Nat} {ret : Option FieldType} {rm : Room} {as' : Array Value} {Qc : Option Value → Heap → List Loc → Prop}
    (hown : s.vm.findClass own = some m.cls) (wl : (Cond.methodLink own index y).before a0 Z = true) (wst : (Cond.static y).before a0 Z = true) (wi : (Cond.initialized y.cls).before a0 Z = true) (wc : (Cond.code y bytes maxL ret).before a0 Z = true)
    (hy : y.cls ≠ "java/lang/invoke/MethodHandle" ∧ y.cls ≠ "java/lang/invoke/VarHandle")
    (hM : MetFree l y (head1 [Cond.code y bytes maxL ret] rm) (fun a U => a = as' ∧ Z.Warmed39 U.vm ∧ U.heap = h) (fun _ _ _ _ _ => True) (fun _ U o U' => ∃ v L, o = .returned v ∧ Qc v U'.heap L ∧ FrameEnd U o U' L rm.cells rm.slots))
    (eT : T.heap = h) {pc : Nat} {Ls : Array Slot} (hsize : Ls.size = c.maxLocals) {argsL rest stk : List Value} (hst : stk = argsL.reverse ++ rest) (ha : argsL.toArray = as') (hlen : ∀ sig, parseMethodDescriptor y.desc = some sig → argsL.length = sig.parameters.length) {W : Nat} (hW : (rest.map fun v => v.category).sum ≤ W)
    (hf : rm.frames + 1 ≤ R.frames) (hl : W + (maxL + 11) + rm.locals ≤ R.locals) (hd : decode c.code pc = .ok (.invokestatic index, 3)) (hc : cells + rm.cells ≤ R.cells) (hs : slots + rm.slots ≤ R.slots)
    (k : ∀ (v : Option Value) (T' : State) (L : List Loc), Stand p l e R s m args below meth c T' (locs ++ L) (cells + rm.cells) (slots + rm.slots) → Qc v T'.heap L → Go p e below End Q T' (mkF m (pc + 3) Ls (v.toList ++ rest))) :
    Go p e below End Q T (mkF m pc Ls stk) := by
  subst hst
  obtain ⟨v, _, ⟨T', L', k', n'⟩, -, X', ⟨Lc, hQ, l1, y1, z1⟩, st⟩ := Jvm.LawKit.callS X hx (y := y) hown (mvT hZ wl) (mvT hZ wst) (mvT hZ wi) (mvT hZ wc) hy (backOf (W := W) hM hZ wc wi hf hl) (g := mkF m pc Ls (argsL.reverse ++ rest)) rfl hsize (argsL := argsL) (rest := rest) hlen rfl (by show 2 * 0 + _ ≤ _; rw [Nat.mul_zero, Nat.zero_add]; exact hW) hd (fun _ _ => ⟨ha, eT, hc, hs⟩)
  dsimp only [Pt.U, Pt.locs, Pt.cells, Pt.slots] at X' l1 y1 z1 st hQ
  subst l1 y1 z1
  exact own_go (fun t q => st _ q) (k v T' Lc X' hQ)
theorem own_callV (X : Stand p l e R s m args below meth c T locs cells slots) (hx : p.tables.exec = Jvm.exec) (hZ : Z.Warmed39 s.vm) {own Cn : String} {index : Nat} {y : MethodName} {bytes : ByteArray} {maxL : Nat} {ret : Option FieldType} {rm : Room} {as' : Array Value} {Qc : Option Value → Heap → List Loc → Prop}
    (hown : s.vm.findClass own = some m.cls) (wl : (Cond.methodLink own index y).before a0 Z = true) (wd : (Cond.declares y).before a0 Z = true) (wsel : (Cond.selects Cn y y).before a0 Z = true) (win : (Cond.instanceMethod y).before a0 Z = true) (wc : (Cond.code y bytes maxL ret).before a0 Z = true) (wi : (Cond.initialized y.cls).before a0 Z = true)
    (hy : y.cls ≠ "java/lang/invoke/MethodHandle" ∧ y.cls ≠ "java/lang/invoke/VarHandle")
    (hM : MetFree l y (head1 [Cond.code y bytes maxL ret] rm) (fun a U => a = as' ∧ Z.Warmed39 U.vm ∧ U.heap = h) (fun _ _ _ _ _ => True) (fun _ U o U' => ∃ v L, o = .returned v ∧ Qc v U'.heap L ∧ FrameEnd U o U' L rm.cells rm.slots))
    (eT : T.heap = h) {b : Addr} (E : Exa Z h b Cn) {pc : Nat} {Ls : Array Slot} (hsize : Ls.size = c.maxLocals) {argsL rest stk : List Value} (hst : stk = argsL.reverse ++ .ref b :: rest) (ha : (.ref b :: argsL).toArray = as') (hlen : ∀ sig, parseMethodDescriptor y.desc = some sig → argsL.length = sig.parameters.length) {W : Nat} (hW : (rest.map fun v => v.category).sum ≤ W)
    (hf : rm.frames + 1 ≤ R.frames) (hl : W + (maxL + 11) + rm.locals ≤ R.locals) (hd : decode c.code pc = .ok (.invokevirtual index, 3)) (hc : cells + rm.cells ≤ R.cells) (hs : slots + rm.slots ≤ R.slots)
    (k : ∀ (v : Option Value) (T' : State) (L : List Loc), Stand p l e R s m args below meth c T' (locs ++ L) (cells + rm.cells) (slots + rm.slots) → Qc v T'.heap L → Go p e below End Q T' (mkF m (pc + 3) Ls (v.toList ++ rest))) :
    Go p e below End Q T (mkF m pc Ls stk) := by
  subst hst
  obtain ⟨cq, kq, qa, qb, qc⟩ := isOf hZ eT E
  obtain ⟨v, _, ⟨T', L', k', n'⟩, -, X', ⟨Lc, hQ, l1, y1, z1⟩, st⟩ := X.virtualBack hx (y := y) (z := y) hown (mvT hZ wl) (mvT hZ wd) (notFace_of_selects (args := #[]) (mvT hZ wsel)) (mvT hZ wsel) (mvT hZ win) hy (backOf (W := W) hM hZ wc wi hf hl) qa qc (g := mkF m pc Ls (argsL.reverse ++ .ref b :: rest)) rfl hsize (Steps.refl _) (argsL := argsL) (rest := rest) hlen rfl (by show 2 * 0 + _ ≤ _; rw [Nat.mul_zero, Nat.zero_add]; exact hW) hd (fun _ _ => ⟨ha, eT, hc, hs⟩)
  dsimp only [Pt.U, Pt.locs, Pt.cells, Pt.slots] at X' l1 y1 z1 st hQ
  subst l1 y1 z1
  exact own_go (fun t q => st.trans q) (k v T' Lc X' hQ)
theorem own_callU (X : Stand p l e R s m args below meth c T locs cells slots) (hx : p.tables.exec = Jvm.exec) (hZ : Z.Warmed39 s.vm) {own Cn owner : String} {index : Nat} {y z : MethodName} {bytes : ByteArray} {maxL : Nat} {ret : Option FieldType} {rm : Room} {as' : Array Value} {Qc : Option Value → Heap → List Loc → Prop}
    (hown : s.vm.findClass own = some m.cls) (wl : (Cond.methodLink own index y).before a0 Z = true) (wsm : (Cond.sameMethod y.cls owner y.name y.desc).before a0 Z = true) (wd : (Cond.declares ⟨owner, y.name, y.desc⟩).before a0 Z = true) (wsel : (Cond.selects Cn y z).before a0 Z = true) (win : (Cond.instanceMethod z).before a0 Z = true) (wc : (Cond.code z bytes maxL ret).before a0 Z = true) (wi : (Cond.initialized z.cls).before a0 Z = true)
    (hy : owner ≠ "java/lang/invoke/MethodHandle" ∧ owner ≠ "java/lang/invoke/VarHandle")
    (hM : MetFree l z (head1 [Cond.code z bytes maxL ret] rm) (fun a U => a = as' ∧ Z.Warmed39 U.vm ∧ U.heap = h) (fun _ _ _ _ _ => True) (fun _ U o U' => ∃ v L, o = .returned v ∧ Qc v U'.heap L ∧ FrameEnd U o U' L rm.cells rm.slots))
    (eT : T.heap = h) {b : Addr} (E : Exa Z h b Cn) {pc : Nat} {Ls : Array Slot} (hsize : Ls.size = c.maxLocals) {argsL rest stk : List Value} (hst : stk = argsL.reverse ++ .ref b :: rest) (ha : (.ref b :: argsL).toArray = as') (hlen : ∀ sig, parseMethodDescriptor y.desc = some sig → argsL.length = sig.parameters.length) {W : Nat} (hW : (rest.map fun v => v.category).sum ≤ W)
    (hf : rm.frames + 1 ≤ R.frames) (hl : W + (maxL + 11) + rm.locals ≤ R.locals) (hd : decode c.code pc = .ok (.invokevirtual index, 3)) (hc : cells + rm.cells ≤ R.cells) (hs : slots + rm.slots ≤ R.slots)
    (k : ∀ (v : Option Value) (T' : State) (L : List Loc), Stand p l e R s m args below meth c T' (locs ++ L) (cells + rm.cells) (slots + rm.slots) → Qc v T'.heap L → Go p e below End Q T' (mkF m (pc + 3) Ls (v.toList ++ rest))) :
    Go p e below End Q T (mkF m pc Ls stk) := by
  subst hst
  obtain ⟨cq, kq, qa, qb, qc⟩ := isOf hZ eT E
  obtain ⟨v, _, ⟨T', L', k', n'⟩, -, X', ⟨Lc, hQ, l1, y1, z1⟩, st⟩ := X.virtualBackUp hx (x := y) (y := z) hown (mvT hZ wl) (mvT hZ wsm) (mvT hZ wd) hy (mvT hZ wsel) (mvT hZ win) (backOf (W := W) hM hZ wc wi hf hl) qa qc (g := mkF m pc Ls (argsL.reverse ++ .ref b :: rest)) rfl hsize (Steps.refl _) (argsL := argsL) (rest := rest) hlen rfl (by show 2 * 0 + _ ≤ _; rw [Nat.mul_zero, Nat.zero_add]; exact hW) hd (fun _ _ => ⟨ha, eT, hc, hs⟩)
  dsimp only [Pt.U, Pt.locs, Pt.cells, Pt.slots] at X' l1 y1 z1 st hQ
  subst l1 y1 z1
  exact own_go (fun t q => st.trans q) (k v T' Lc X' hQ)
theorem own_callI (X : Stand p l e R s m args below meth c T locs cells slots) (hx : p.tables.exec = Jvm.exec) (hZ : Z.Warmed39 s.vm) {own : String} {index : Nat} {y : MethodName} {bytes : ByteArray} {maxL : Nat} {rm : Room} {as' : Array Value} {Qc : Option Value → Heap → List Loc → Prop} (hy1 : y.name = "<init>")
    (hown : s.vm.findClass own = some m.cls) (wl : (Cond.methodLink own index y).before a0 Z = true) (win : (Cond.instanceMethod y).before a0 Z = true) (wc : (Cond.code y bytes maxL none).before a0 Z = true) (wi : (Cond.initialized y.cls).before a0 Z = true)
    (hy : y.cls ≠ "java/lang/invoke/MethodHandle" ∧ y.cls ≠ "java/lang/invoke/VarHandle")
    (hM : MetFree l y (head1 [Cond.code y bytes maxL none] rm) (fun a U => a = as' ∧ Z.Warmed39 U.vm ∧ U.heap = h) (fun _ _ _ _ _ => True) (fun _ U o U' => ∃ v L, o = .returned v ∧ Qc v U'.heap L ∧ FrameEnd U o U' L rm.cells rm.slots))
    (eT : T.heap = h) {b : Addr} {pc : Nat} {Ls : Array Slot} (hsize : Ls.size = c.maxLocals) {argsL rest stk : List Value} (hst : stk = argsL.reverse ++ .ref b :: rest) (ha : (.ref b :: argsL).toArray = as') (hlen : ∀ sig, parseMethodDescriptor y.desc = some sig → argsL.length = sig.parameters.length) {W : Nat} (hW : (rest.map fun v => v.category).sum ≤ W)
    (hf : rm.frames + 1 ≤ R.frames) (hl : W + (maxL + 11) + rm.locals ≤ R.locals) (hd : decode c.code pc = .ok (.invokespecial index, 3)) (hc : cells + rm.cells ≤ R.cells) (hs : slots + rm.slots ≤ R.slots)
    (k : ∀ (v : Option Value) (T' : State) (L : List Loc), Stand p l e R s m args below meth c T' (locs ++ L) (cells + rm.cells) (slots + rm.slots) → Qc v T'.heap L → Go p e below End Q T' (mkF m (pc + 3) Ls (v.toList ++ rest))) :
    Go p e below End Q T (mkF m pc Ls stk) := by
  subst hst
  obtain ⟨v, _, ⟨T', L', k', n'⟩, -, X', ⟨Lc, hQ, l1, y1, z1⟩, st⟩ := X.specialBack hx (y := y) hy1 hown (mvT hZ wl) (mvT hZ win) (mvT hZ wc) hy (backOf (W := W) hM hZ wc wi hf hl) (g := mkF m pc Ls (argsL.reverse ++ .ref b :: rest)) rfl hsize (Steps.refl _) (a := b) (argsL := argsL) (rest := rest) hlen rfl (by show 2 * 0 + _ ≤ _; rw [Nat.mul_zero, Nat.zero_add]; exact hW) hd (fun _ _ => ⟨ha, eT, hc, hs⟩)
  dsimp only [Pt.U, Pt.locs, Pt.cells, Pt.slots] at X' l1 y1 z1 st hQ
  subst l1 y1 z1
  exact own_go (fun t q => st.trans q) (k v T' Lc X' hQ)
theorem own_eqI {ar : Array Value} {t : Term} {k : Int32} (hx : (Cond.eq t (.int k)).value ar Z none Z [] = some true) : t.eval ar Z none [] Z = some (.int k) := by
  obtain ⟨x, y, e1, e2, k1, -⟩ := cmp_v (Or.inl hx)
  have e3 : y = .int k := Option.some.inj (e2.symm.trans (Term.int_eval k))
  subst e3
  cases x with
  | int z =>
    have := gotT (Cond.eq_ints e1 e2) hx
    subst this
    exact e1
  | _ => simp [Kin, Value.isRef] at k1
theorem own_fld {ar : Array Value} {t : Term} {w : Addr} {O n d : String} {k : Int32} (ev : t.eval ar Z none [] Z = some (.ref w)) (hx : (Cond.eq (.field t O n d) (.int k)).value ar Z none Z [] = some true) : Fld Z Z.heap w O n d (.int k) :=
  Fld.start ((fld_at (C := O) (n := n) (dd := d) ev).symm.trans (own_eqI hx))
theorem own_len {ar : Array Value} {t : Term} {a : Addr} {cl : Cell} {k : Int32} {n : Nat} (ev : t.eval ar Z none [] Z = some (.ref a)) (hat : Z.arrayAt? a = some cl) (hL : (Cond.eq (.length t) (.int k)).value ar Z none Z [] = some true) (hk : k.toInt = n) : cl.slots.size = n ∧ cl.slots.size < 2 ^ 31 := by
  by_cases hs : cl.slots.size < 2 ^ 31
  · have e1 := len_f (t := t) ev hat hs
    have e2 := own_eqI hL
    have e3 : cl.slots.size.toInt32 = k := Value.int.inj (Option.some.inj (e1.symm.trans e2))
    have e4 := len_toInt hs
    rw [e3, hk] at e4
    exact ⟨by omega, hs⟩
  · have e2 := own_eqI hL
    simp [Term.eval, ev, hat, hs] at e2
theorem own_ne_fld {a b : Addr} {Cn n d : String} {v w : Value} (F : Fld Z h a Cn n d v) (G : Fld Z h b Cn n d w) (hn : v ≠ w) : ¬ a = b := by
  rintro rfl
  obtain ⟨c1, cf1, k1, i1, f1, h1, h2, -, -, -, -, h7⟩ := F
  obtain ⟨c2, cf2, k2, i2, f2, g1, g2, -, -, -, -, g7⟩ := G
  cases h1.symm.trans g1
  cases h2.symm.trans g2
  cases h7.symm.trans g7
  exact hn rfl
theorem own_sta_keep {h h' : Heap} {ws : List Addr} {Cn n d : String} {v : Value} (F : Sta Z h Cn n d v) (K : Keep h h' ws) (hws : ∀ a ∈ ws, ∃ C', Exa Z h a C') : Sta Z h' Cn n d v := by
  obtain ⟨cf, i, k, f, st, cell, h1, h2, h3, h4, h5, h6, h7⟩ := F
  refine ⟨cf, i, k, f, st, cell, h1, h2, h3, h4, K.2.1 st cell h5 (fun q => ?_), h6, h7⟩
  obtain ⟨C', cell', k', e1, -, -, e4, -⟩ := hws st q
  cases h5.symm.trans e1
  rw [h6] at e4; cases e4
/-- the class named c has no superclass named K (itself neither) -/
def OwnNsub (Z : State) (c K : String) : Prop := ∀ (ci ki : ClassId), Z.vm.findClass c = some ci → Z.vm.findClass K = some ki → ∀ fuel, Z.vm.isSubclassAux fuel ci ki = false
theorem own_id_ne {c K : String} {ci ki : ClassId} (h1 : Z.vm.findClass c = some ci) (h2 : Z.vm.findClass K = some ki) (hn : c ≠ K) : (ci == ki) = false := by
  rw [beq_eq_false_iff_ne]
  rintro rfl
  obtain ⟨k1, a1, b1⟩ := Vm.findClass_spec h1
  obtain ⟨k2, a2, b2⟩ := Vm.findClass_spec h2
  cases a1.symm.trans a2
  exact hn (b1.symm.trans b2)
theorem own_nsub_root {c K : String} (w : (Cond.noSuperclass c).before a0 Z = true) (hn : c ≠ K) : OwnNsub Z c K := by
  intro ci ki h1 h2 fuel
  cases fuel with
  | zero => rfl
  | succ n =>
    obtain ⟨k1, a1, b1⟩ := Vm.findClass_spec h1
    have hs := Cond.noSuperclass_root w ci k1 h1 a1
    simp [Vm.isSubclassAux, own_id_ne h1 h2 hn, a1, hs]
theorem own_nsub_up {c d K : String} (w : (Cond.superclass c d).before a0 Z = true) (hn : c ≠ K) (N : OwnNsub Z d K) : OwnNsub Z c K := by
  intro ci ki h1 h2 fuel
  cases fuel with
  | zero => rfl
  | succ n =>
    obtain ⟨pi, k, kp, g1, g2, g3, g4, -⟩ := Cond.superclass_spec h1 w
    simp [Vm.isSubclassAux, own_id_ne h1 h2 hn, g2, g4, N pi ki g1 h2 n]
theorem own_nins {a : Addr} {c d K : String} {kk : Nat} (E : Exa Z h a c) (wi : (Cond.instantiable K kk).before a0 Z = true) (wsup : (Cond.superclass c d).before a0 Z = true) (hn : c ≠ K) (N : OwnNsub Z c K) : Ins Z h a K false := by
  obtain ⟨cell, k, h1, h2, h3, h4, -⟩ := E
  obtain ⟨ki, kt, i1, i2, i3, i4, -⟩ := Cond.instantiable_spec wi
  obtain ⟨pi, k', kp, g1, g2, g3, g4, g5, -⟩ := Cond.superclass_spec h2 wsup
  cases h3.symm.trans g2
  refine ⟨cell, ki, h1, i1, ?_⟩
  have hif : kt.isInterface = false := by simp only [Bool.or_eq_false_iff] at i4; exact i4.1
  simp [h4, Vm.assignable, Vm.assignableAux, own_id_ne h2 i1 hn, h3, i2, g5, i3, hif, Vm.isSubclass, N cell.cls ki h2 i1]
end OwnGo
theorem own_int {i j : Int32} (h : i.toInt = j.toInt) : i = j := Int32.toInt_inj.mp h
theorem own_and3 (x : Int32) : (x &&& (3 : Int32)) = 0 ∨ (x &&& (3 : Int32)) = 1 ∨ (x &&& (3 : Int32)) = 2 ∨ (x &&& (3 : Int32)) = 3 := by
  have h := c_and x (3 : Int32) (by decide)
  have h3 : (3 : Int32).toInt = 3 := by decide
  rw [h3] at h
  generalize (x &&& (3 : Int32)) = i at h
  have q : i.toInt = 0 ∨ i.toInt = 1 ∨ i.toInt = 2 ∨ i.toInt = 3 := by omega
  rcases q with q | q | q | q
  · exact Or.inl (own_int q)
  · exact Or.inr (Or.inl (own_int q))
  · exact Or.inr (Or.inr (Or.inl (own_int q)))
  · exact Or.inr (Or.inr (Or.inr (own_int q)))
theorem own_and1 (x : Int32) : (x &&& (1 : Int32)) = 0 ∨ (x &&& (1 : Int32)) = 1 := by
  have h := c_and x (1 : Int32) (by decide)
  have h3 : (1 : Int32).toInt = 1 := by decide
  rw [h3] at h
  generalize (x &&& (1 : Int32)) = i at h
  have q : i.toInt = 0 ∨ i.toInt = 1 := by omega
  rcases q with q | q
  · exact Or.inl (own_int q)
  · exact Or.inr (own_int q)
theorem own_rem6 (x : Int32) : ((x &&& (2147483647 : Int32)) % (6 : Int32)) = 0 ∨ ((x &&& (2147483647 : Int32)) % (6 : Int32)) = 1 ∨ ((x &&& (2147483647 : Int32)) % (6 : Int32)) = 2 ∨ ((x &&& (2147483647 : Int32)) % (6 : Int32)) = 3 ∨ ((x &&& (2147483647 : Int32)) % (6 : Int32)) = 4 ∨ ((x &&& (2147483647 : Int32)) % (6 : Int32)) = 5 := by
  have h := (c_and x (2147483647 : Int32) (by decide)).1
  generalize (x &&& (2147483647 : Int32)) = y at h
  have h2 := (c_irem y (6 : Int32) 6 (by decide)).1 h
  generalize (y % (6 : Int32)) = i at h2
  have q : i.toInt = 0 ∨ i.toInt = 1 ∨ i.toInt = 2 ∨ i.toInt = 3 ∨ i.toInt = 4 ∨ i.toInt = 5 := by omega
  rcases q with q | q | q | q | q | q
  · exact Or.inl (own_int q)
  · exact Or.inr (Or.inl (own_int q))
  · exact Or.inr (Or.inr (Or.inl (own_int q)))
  · exact Or.inr (Or.inr (Or.inr (Or.inl (own_int q))))
  · exact Or.inr (Or.inr (Or.inr (Or.inr (Or.inl (own_int q)))))
  · exact Or.inr (Or.inr (Or.inr (Or.inr (Or.inr (own_int q)))))
theorem own_rem5 (x : Int32) : ((x &&& (2147483647 : Int32)) % (5 : Int32)) = 0 ∨ ((x &&& (2147483647 : Int32)) % (5 : Int32)) = 1 ∨ ((x &&& (2147483647 : Int32)) % (5 : Int32)) = 2 ∨ ((x &&& (2147483647 : Int32)) % (5 : Int32)) = 3 ∨ ((x &&& (2147483647 : Int32)) % (5 : Int32)) = 4 := by
  have h := (c_and x (2147483647 : Int32) (by decide)).1
  generalize (x &&& (2147483647 : Int32)) = y at h
  have h2 := (c_irem y (5 : Int32) 5 (by decide)).1 h
  generalize (y % (5 : Int32)) = i at h2
  have q : i.toInt = 0 ∨ i.toInt = 1 ∨ i.toInt = 2 ∨ i.toInt = 3 ∨ i.toInt = 4 := by omega
  rcases q with q | q | q | q | q
  · exact Or.inl (own_int q)
  · exact Or.inr (Or.inl (own_int q))
  · exact Or.inr (Or.inr (Or.inl (own_int q)))
  · exact Or.inr (Or.inr (Or.inr (Or.inl (own_int q))))
  · exact Or.inr (Or.inr (Or.inr (Or.inr (own_int q))))
theorem own_and2 (x : Int32) : (x &&& (2 : Int32)) = 0 ∨ (x &&& (2 : Int32)) = 2 := by
  have h : (x &&& (2 : Int32)) = (x &&& (3 : Int32)) &&& (2 : Int32) := by rw [Int32.and_assoc]; rfl
  rw [h]
  rcases own_and3 x with q | q | q | q <;> rw [q] <;> decide

def OwnCache (Z : State) (h : Heap) (ca : Addr) : Prop := ∃ cl : Cell, Arr Z h ca cl (.object "java/lang/Integer") ∧ cl.slots.size = 256 ∧ ∀ i, i < 256 → ∃ b, cl.slots[i]? = some (.ref b) ∧ Exa Z h b "java/lang/Integer"
section OwnC
variable {Z : State} {h h' : Heap} {ca a : Addr} {sl : Nat} {v : Value} {ws : List Addr}
theorem OwnCache.lt (F : OwnCache Z h ca) : ca < h.size := by obtain ⟨cl, A, -⟩ := F; exact A.lt
theorem OwnCache.ext (F : OwnCache Z h ca) (E : Ext h h') : OwnCache Z h' ca := by
  obtain ⟨cl, A, s, g⟩ := F
  exact ⟨cl, A.ext E, s, fun i hi => by obtain ⟨b, q, e⟩ := g i hi; exact ⟨b, q, e.ext E⟩⟩
theorem OwnCache.other (F : OwnCache Z h ca) (W : Wr h h' a sl v) (q : ¬ ca = a) : OwnCache Z h' ca := by
  obtain ⟨cl, A, s, g⟩ := F
  exact ⟨cl, A.other W q, s, fun i hi => by obtain ⟨b, q, e⟩ := g i hi; exact ⟨b, q, e.wr W⟩⟩
theorem OwnCache.keep (F : OwnCache Z h ca) (K : Keep h h' ws) (q : ca ∉ ws) : OwnCache Z h' ca := by
  obtain ⟨cl, A, s, g⟩ := F
  exact ⟨cl, ⟨K.2.1 ca cl A.1 q, A.2⟩, s, fun i hi => by obtain ⟨b, q, e⟩ := g i hi; exact ⟨b, q, e.keep K⟩⟩
theorem own_cidx (p1 : Int32) (h1 : ¬ p1 < (-128 : Int32)) (h2 : ¬ (127 : Int32) < p1) : ¬ (p1 + (128 : Int32)) < 0 ∧ (p1 + (128 : Int32)).toNatClampNeg < 256 := by
  have k1 : (-128 : Int32).toInt = -128 := by decide
  have k2 : (127 : Int32).toInt = 127 := by decide
  have k3 : (128 : Int32).toInt = 128 := by decide
  have k4 : (0 : Int32).toInt = 0 := by decide
  rw [Int32.lt_iff_toInt_lt, k1] at h1
  rw [Int32.lt_iff_toInt_lt, k2] at h2
  have e : (p1 + (128 : Int32)).toInt = p1.toInt + 128 := by
    rw [Int32.toInt_add, k3]
    exact Int.bmod_eq_of_le (by omega) (by omega)
  refine ⟨by rw [Int32.lt_iff_toInt_lt, k4, e]; omega, ?_⟩
  have q : (p1 + (128 : Int32)).toNatClampNeg = (p1 + (128 : Int32)).toInt.toNat := rfl
  rw [q, e]; omega
theorem own_high {args : Array Value} {C n d : String} {k : Int32} (hx : (Cond.eq (.static C n d) (.int k)).value args Z none Z [] = some true) : (Term.static C n d).eval args Z none [] Z = some (.int k) := own_eqI hx
theorem own_elem {args : Array Value} {C n d : String} {cl : Cell} {i : Nat} {v : Value} (eca : (Term.static C n d).eval args Z none [] Z = some (.ref ca)) (hc : Z.heap[ca]? = some cl) (hi : i < 2147483648) (h : (Term.elem (Term.static C n d) (.index 0)).eval args Z none [i] Z = some v) : cl.slots[i]? = some v := by
  have eT : (Term.static C n d).eval args Z none [i] Z = some (.ref ca) := eca
  have ei : (Term.index 0).eval args Z none [i] Z = some (.int i.toInt32) := rfl
  have q := (elem_in h eT ei hc).2
  have e : i.toInt32.toNatClampNeg = i := by
    have e1 : i.toInt32.toNatClampNeg = i.toInt32.toInt.toNat := rfl
    rw [e1, len_toInt hi]; rfl
  rw [e] at q
  exact q
theorem own_exat {args : Array Value} {t : Term} {C : String} {idx : List Nat} (hx : (Cond.exactly t C).value args Z none Z idx = some true) : ∃ b, t.eval args Z none idx Z = some (.ref b) ∧ Exa Z Z.heap b C := by
  obtain ⟨a', c', cell, k, e1, e2, e3, e4, e5, rfl, e7⟩ := Cond.exactly_spec (beq_iff_eq.mpr hx : (Cond.exactly t C).holds args Z none Z idx = true)
  exact ⟨a', e1, cell, k, e3, e2, e4, e5, e7⟩
theorem own_cache {args : Array Value} {C n d : String} {c2 : Cond} (eca : (Term.static C n d).eval args Z none [] Z = some (.ref ca)) (hA : (Cond.arrayOf (Term.static C n d) (.object "java/lang/Integer")).value args Z none Z [] = some true)
    (hL : (Cond.eq (.length (Term.static C n d)) (.int 256)).value args Z none Z [] = some true) (hAll : (Cond.all (Term.static C n d) (.and (.exactly (.elem (Term.static C n d) (.index 0)) "java/lang/Integer") c2)).value args Z none Z [] = some true) : OwnCache Z Z.heap ca := by
  obtain ⟨cl, A⟩ := Arr.start eca hA
  have hat : Z.arrayAt? ca = some cl := Arr.fin (Vm.Alike.refl _) A
  obtain ⟨hsz, -⟩ := own_len (n := 256) eca hat hL (by decide)
  refine ⟨cl, A, hsz, fun i hi => ?_⟩
  have hel := Cond.all_elim eca hat hAll i (by omega)
  obtain ⟨g1, -⟩ := and_e hel
  obtain ⟨b, e, E⟩ := own_exat g1
  exact ⟨b, own_elem eca A.1 (by omega) e, E⟩
end OwnC

def OwnLCache (Z : State) (n0 : Nat) (h : Heap) (ca : Addr) : Prop := ∃ cl : Cell, Arr Z h ca cl (.object "java/lang/Long") ∧ cl.slots.size = 256 ∧ ca < n0 ∧ ∀ i, i < 256 → ∃ b, cl.slots[i]? = some (.ref b) ∧ b < n0 ∧ Exa Z h b "java/lang/Long" ∧ Fld Z h b "java/lang/Long" "value" "J" (.long (Int32.toInt64 (i.toInt32 - 128)))
section OwnL
variable {Z : State} {h h' : Heap} {n0 : Nat} {ca a : Addr} {sl : Nat} {v : Value} {ws : List Addr}
theorem OwnLCache.lt (F : OwnLCache Z n0 h ca) : ca < h.size := by obtain ⟨cl, A, -⟩ := F; exact A.lt
theorem OwnLCache.ext (F : OwnLCache Z n0 h ca) (E : Ext h h') : OwnLCache Z n0 h' ca := by
  obtain ⟨cl, A, s, lt, g⟩ := F
  exact ⟨cl, A.ext E, s, lt, fun i hi => by obtain ⟨b, q, r, e, f⟩ := g i hi; exact ⟨b, q, r, e.ext E, f.ext E⟩⟩
theorem OwnLCache.other (F : OwnLCache Z n0 h ca) (W : Wr h h' a sl v) (q : n0 ≤ a) : OwnLCache Z n0 h' ca := by
  obtain ⟨cl, A, s, lt, g⟩ := F
  exact ⟨cl, A.other W (Nat.ne_of_lt (Nat.lt_of_lt_of_le lt q)), s, lt, fun i hi => by obtain ⟨b, u, r, e, f⟩ := g i hi; exact ⟨b, u, r, e.wr W, f.other W (Or.inl (Nat.ne_of_lt (Nat.lt_of_lt_of_le r q)))⟩⟩
theorem OwnLCache.keep (F : OwnLCache Z n0 h ca) (K : Keep h h' ws) (q : ∀ x ∈ ws, n0 ≤ x) : OwnLCache Z n0 h' ca := by
  obtain ⟨cl, A, s, lt, g⟩ := F
  have nin : ∀ x, x < n0 → x ∉ ws := fun x hx hm => absurd (q x hm) (Nat.not_le.mpr hx)
  exact ⟨cl, ⟨K.2.1 ca cl A.1 (nin _ lt), A.2⟩, s, lt, fun i hi => by obtain ⟨b, u, r, e, f⟩ := g i hi; exact ⟨b, u, r, e.keep K, f.keep K (nin _ r)⟩⟩
theorem own_lidx (p1 : Int64) (h1 : ¬ lcmpW p1 (-128 : Int64) < (0 : Int32)) (h2 : ¬ (0 : Int32) < lcmpW p1 (127 : Int64)) : ¬ (p1.toInt32 + (128 : Int32)) < 0 ∧ (p1.toInt32 + (128 : Int32)).toNatClampNeg < 256 ∧ Int32.toInt64 (((p1.toInt32 + (128 : Int32)).toNatClampNeg).toInt32 - 128) = p1 := by
  rw [lw_lt, Int64.lt_iff_toInt_lt] at h1
  rw [lw_gt, Int64.lt_iff_toInt_lt] at h2
  have k1 : (-128 : Int64).toInt = -128 := by decide
  have k2 : (127 : Int64).toInt = 127 := by decide
  have k3 : (128 : Int32).toInt = 128 := by decide
  have k4 : (0 : Int32).toInt = 0 := by decide
  rw [k1] at h1
  rw [k2] at h2
  have e0 : p1.toInt32.toInt = p1.toInt := by
    rw [Int64.toInt_toInt32]
    exact Int.bmod_eq_of_le (by omega) (by omega)
  have e : (p1.toInt32 + (128 : Int32)).toInt = p1.toInt + 128 := by
    rw [Int32.toInt_add, k3, e0]
    exact Int.bmod_eq_of_le (by omega) (by omega)
  have q : (p1.toInt32 + (128 : Int32)).toNatClampNeg = (p1.toInt + 128).toNat := by
    have q1 : (p1.toInt32 + (128 : Int32)).toNatClampNeg = (p1.toInt32 + (128 : Int32)).toInt.toNat := rfl
    rw [q1, e]
  refine ⟨by rw [Int32.lt_iff_toInt_lt, k4, e]; omega, by rw [q]; omega, ?_⟩
  rw [q]
  apply Int64.toInt_inj.mp
  have e1 : ((p1.toInt + 128).toNat).toInt32.toInt = p1.toInt + 128 := by
    rw [len_toInt (by omega)]; omega
  rw [Int32.toInt_toInt64, Int32.toInt_sub, e1, k3]
  rw [Int.bmod_eq_of_le (by omega) (by omega)]
  omega
theorem own_lcache {args : Array Value} {C n d : String} (eca : (Term.static C n d).eval args Z none [] Z = some (.ref ca)) (hA : (Cond.arrayOf (Term.static C n d) (.object "java/lang/Long")).value args Z none Z [] = some true)
    (hL : (Cond.eq (.length (Term.static C n d)) (.int 256)).value args Z none Z [] = some true) (hAll : (Cond.all (Term.static C n d) (.and (.exactly (.elem (Term.static C n d) (.index 0)) "java/lang/Long") (.eq (.field (.elem (Term.static C n d) (.index 0)) "java/lang/Long" "value" "J") (.op1 .i2l (.sub (.index 0) (.int 128)))))).value args Z none Z [] = some true) : OwnLCache Z Z.heap.size Z.heap ca := by
  obtain ⟨cl, A⟩ := Arr.start eca hA
  have hat : Z.arrayAt? ca = some cl := Arr.fin (Vm.Alike.refl _) A
  obtain ⟨hsz, -⟩ := own_len (n := 256) eca hat hL (by decide)
  refine ⟨cl, A, hsz, A.lt, fun i hi => ?_⟩
  have hel := Cond.all_elim eca hat hAll i (by omega)
  obtain ⟨g1, g2⟩ := and_e hel
  obtain ⟨b, e, E⟩ := own_exat g1
  refine ⟨b, own_elem eca A.1 (by omega) e, E.lt, E, ?_⟩
  have e2 : (Term.op1 .i2l (.sub (.index 0) (.int 128))).eval args Z none [i] Z = some (.long (Int32.toInt64 (i.toInt32 - 128))) := rfl
  have e3 := fld_at (C := "java/lang/Long") (n := "value") (dd := "J") e
  obtain ⟨x, y, q1, q2, k1, k2⟩ := cmp_v (Or.inl g2)
  have q3 : y = .long (Int32.toInt64 (i.toInt32 - 128)) := Option.some.inj (q2.symm.trans e2)
  subst q3
  cases x with
  | long z =>
    have := gotT (eq_L q1 q2) g2
    subst this
    exact Fld.start (e3.symm.trans q1)
  | _ => simp [Kin, Value.isRef] at k1
end OwnL
def own_nv : Value → Int64
  | .null => 0
  | _ => 1
def own_nz (k : Int32) : Int64 := if k = 0 then 0 else 1
theorem own_cat {v : Value} (hv : v.isRef = true) : v.category = 1 := by rcases ref_cases hv with rfl | ⟨b, rfl⟩ <;> rfl
theorem own_nozero {Z : State} {args : Array Value} {t : Term} {x : Int32} (ev : t.eval args Z none [] Z = some (.int x)) (h : (Cond.not (.eq t (.int 0))).value args Z none Z [] = some true) : ¬ x = (0 : Int32) := by
  have h2 := not_v h
  rintro rfl
  simp [Cond.value, ev, Term.eval] at h2

theorem d_jdk_18_method_1_0 : Jvm.ClassFile.decode jdk_18_method_1_code 0 = .ok (.aload_n 0, 1) := by decide +kernel
theorem d_jdk_18_method_1_1 : Jvm.ClassFile.decode jdk_18_method_1_code 1 = .ok (.invokespecial 1, 3) := by decide +kernel
theorem d_jdk_18_method_1_4 : Jvm.ClassFile.decode jdk_18_method_1_code 4 = .ok (.return_, 1) := by decide +kernel
theorem own_pn0 : plainName "java/lang/Number" = true := by first | (simp [plainName, overriddenIn]; done) | decide +kernel
theorem own_ef_rm15 (m : MethodId) (x0 : Addr) : entryFrame m #[(.ref x0)] 1 = mkF m 0 #[.val (.ref x0)] [] := by first | (simp [entryFrame, mkF, argsToLocals, Value.category]; done) | rfl
set_option maxRecDepth 65536 in
set_option maxHeartbeats 40000000 in
theorem rm15 (l : Launch) (Z : State) (a0 : Array Value) (hw : ∀ d ∈ tables_1, d.before a0 Z = true) (ws : List Jvm.Cond) (a1 : Addr) (h0 : Heap) (n0 : Nat) (hn0 : n0 ≤ h0.size)  :
    OwnMet l Z (⟨"java/lang/Number", "<init>", "()V"⟩ : MethodName) jdk_18_method_1_code 1 none ws ({ frames := 1, cells := 0, slots := 0, locals := 12 } : Room) #[(.ref a1)] h0 (OwnP none h0 n0) := by
  refine own_body (plainFor_of_name own_pn0) ?_
  intro p e s m below meth c s₁ X0 hx hby hml hret hlk hown0 hnm hZ e0 hs0
  have hown : s.vm.findClass "java/lang/Number" = some m.cls := hown0
  have N0 := Fr.nil n0
  refine own_entry (own_ef_rm15 m a1) ?_
  show Go _ _ _ _ _ s₁ (mkF m 0 #[.val (.ref a1)] [])
  refine own_go (fun t k => XS.aloadN X0.here hx rfl (hb hby d_jdk_18_method_1_0) rfl rfl k) ?_
  show Go _ _ _ _ _ s₁ (mkF m 1 #[.val (.ref a1)] [(.ref a1)])
  obtain ⟨T1, X1, e1, st1⟩ := initO X0 hx hZ hown (hw _ (List.mem_of_getElem? (i := 88) rfl)) (hw _ (List.mem_of_getElem? (i := 11) rfl)) (hw _ (List.mem_of_getElem? (i := 12) rfl)) e0 (g := (mkF m 1 #[.val (.ref a1)] [(.ref a1)])) rfl (by rw [hml]; rfl) rfl (hb hby d_jdk_18_method_1_1) (by decide) (W := 0) (by show 2 * 0 + _ ≤ _; exact Nat.le_of_eq rfl) (by decide)
  refine own_go (fun t k => st1 t k) ?_
  show Go _ _ _ _ _ T1 (mkF m 4 #[.val (.ref a1)] [])
  refine own_retV X1 hx (own_lvN X1 hlk (by decide) (by decide)) hret (hb hby d_jdk_18_method_1_4) ?_
  exact ⟨rfl, N0, e1⟩
def OwnQ_rm14 (Z : State) (a1 : Addr) (p1 : Int32) (h0 : Heap) (n0 : Nat) (v : Option Value) (h : Heap) (L : List Loc) : Prop := v = none ∧ Fr n0 L ∧ Keep h0 h [a1] ∧ Exa Z h a1 "java/lang/Integer" ∧ Fld Z h a1 "java/lang/Integer" "value" "I" (.int p1)
theorem d_jdk_33_method_23_0 : Jvm.ClassFile.decode jdk_33_method_23_code 0 = .ok (.aload_n 0, 1) := by decide +kernel
theorem d_jdk_33_method_23_1 : Jvm.ClassFile.decode jdk_33_method_23_code 1 = .ok (.invokespecial 202, 3) := by decide +kernel
theorem own_pd0 : parseMethodDescriptor "()V" = some ⟨[], none⟩ := by decide +kernel
theorem d_jdk_33_method_23_4 : Jvm.ClassFile.decode jdk_33_method_23_code 4 = .ok (.aload_n 0, 1) := by decide +kernel
theorem d_jdk_33_method_23_5 : Jvm.ClassFile.decode jdk_33_method_23_code 5 = .ok (.iload_n 1, 1) := by decide +kernel
theorem d_jdk_33_method_23_6 : Jvm.ClassFile.decode jdk_33_method_23_code 6 = .ok (.putfield 205, 3) := by decide +kernel
theorem d_jdk_33_method_23_9 : Jvm.ClassFile.decode jdk_33_method_23_code 9 = .ok (.return_, 1) := by decide +kernel
theorem own_pn1 : plainName "java/lang/Integer" = true := by first | (simp [plainName, overriddenIn]; done) | decide +kernel
theorem own_ef_rm14 (m : MethodId) (x0 : Addr) (x1 : Int32) : entryFrame m #[(.ref x0), (.int x1)] 2 = mkF m 0 #[.val (.ref x0), .val (.int x1)] [] := by first | (simp [entryFrame, mkF, argsToLocals, Value.category]; done) | rfl
set_option maxRecDepth 65536 in
set_option maxHeartbeats 40000000 in
theorem rm14 (l : Launch) (Z : State) (a0 : Array Value) (hw : ∀ d ∈ tables_1, d.before a0 Z = true) (ws : List Jvm.Cond) (a1 : Addr) (p1 : Int32) (h0 : Heap) (n0 : Nat) (hn0 : n0 ≤ h0.size) (E_a1 : Exa Z h0 a1 "java/lang/Integer") (g_a1 : n0 ≤ a1) (F_value : Fld Z h0 a1 "java/lang/Integer" "value" "I" (.int (0 : Int32))) :
    OwnMet l Z (⟨"java/lang/Integer", "<init>", "(I)V"⟩ : MethodName) jdk_33_method_23_code 2 none ws ({ frames := 2, cells := 0, slots := 0, locals := 24 } : Room) #[(.ref a1), (.int p1)] h0 (OwnQ_rm14 Z a1 p1 h0 n0) := by
  refine own_body (plainFor_of_name own_pn1) ?_
  intro p e s m below meth c s₁ X0 hx hby hml hret hlk hown0 hnm hZ e0 hs0
  have hown : s.vm.findClass "java/lang/Integer" = some m.cls := hown0
  have N0 := Fr.nil n0
  refine own_entry (own_ef_rm14 m a1 p1) ?_
  have K0 := Keep.refl h0 [a1]
  show Go _ _ _ _ _ s₁ (mkF m 0 #[.val (.ref a1), .val (.int p1)] [])
  refine own_go (fun t k => XS.aloadN X0.here hx rfl (hb hby d_jdk_33_method_23_0) rfl rfl k) ?_
  show Go _ _ _ _ _ s₁ (mkF m 1 #[.val (.ref a1), .val (.int p1)] [(.ref a1)])
  refine own_callI X0 hx hZ (y := (⟨"java/lang/Number", "<init>", "()V"⟩ : MethodName)) rfl hown (hw _ (List.mem_of_getElem? (i := 82) rfl)) (hw _ (List.mem_of_getElem? (i := 83) rfl)) (hw _ (List.mem_of_getElem? (i := 87) rfl)) (hw _ (List.mem_of_getElem? (i := 86) rfl)) (by decide) (rm15 l Z a0 hw [] a1 h0 n0 hn0) e0 (b := a1) (by rw [hml]; rfl) (argsL := []) (rest := []) rfl rfl (lenOf own_pd0 rfl) (W := 0) (Nat.le_of_eq rfl) (by decide) (by decide) (hb hby d_jdk_33_method_23_1) (by decide) (by decide) ?_
  intro v2 T2 L2 X2 q2
  obtain ⟨rfl, N2q, e2⟩ := q2
  have N2 := Fr.app N0 N2q
  show Go _ _ _ _ _ T2 (mkF m 4 #[.val (.ref a1), .val (.int p1)] [])
  refine own_go (fun t k => XS.aloadN X2.here hx rfl (hb hby d_jdk_33_method_23_4) rfl rfl k) ?_
  show Go _ _ _ _ _ T2 (mkF m 5 #[.val (.ref a1), .val (.int p1)] [(.ref a1)])
  refine own_go (fun t k => XS.iloadN X2.here hx rfl (hb hby d_jdk_33_method_23_5) rfl k) ?_
  show Go _ _ _ _ _ T2 (mkF m 6 #[.val (.ref a1), .val (.int p1)] [(.int p1), (.ref a1)])
  obtain ⟨T3, h3, X3, e3, W3, st3⟩ := putF X2 hx hZ hown (host := "") (Or.inl (hw _ (List.mem_of_getElem? (i := 89) rfl))) Via.refl e2 F_value E_a1 (Or.inr ⟨(hw _ (List.mem_of_getElem? (i := 90) rfl)), rfl, hnm⟩) (hw _ (List.mem_of_getElem? (i := 77) rfl)) (ty := .int) (by decide) rfl rfl (g := (mkF m 6 #[.val (.ref a1), .val (.int p1)] [(.int p1), (.ref a1)])) rfl rfl (hb hby d_jdk_33_method_23_6)
  replace E_a1 := E_a1.wr W3
  replace F_value := F_value.same W3
  have N3 := Fr.snoc X3 N2 g_a1
  have hn3 : n0 ≤ h3.size := Nat.le_trans hn0 (Keep.of_wr W3).1
  have K3 := K0.wr W3 (Or.inl (List.mem_of_getElem? (i := 0) rfl))
  refine own_go (fun t k => st3 t k) ?_
  show Go _ _ _ _ _ T3 (mkF m 9 #[.val (.ref a1), .val (.int p1)] [])
  refine own_retV X3 hx (own_lvN X3 hlk (by decide) (by decide)) hret (hb hby d_jdk_33_method_23_9) ?_
  rw [e3]
  exact ⟨rfl, N3, K3, E_a1, F_value⟩
def OwnQ_box (Z : State) (h0 : Heap) (n0 : Nat) (v : Option Value) (h : Heap) (L : List Loc) : Prop := ∃ b, v = some (.ref b) ∧ Fr n0 L ∧ Keep h0 h [] ∧ Exa Z h b "java/lang/Integer"
theorem d_jdk_33_method_22_0 : Jvm.ClassFile.decode jdk_33_method_22_code 0 = .ok (.iload_n 0, 1) := by decide +kernel
theorem d_jdk_33_method_22_1 : Jvm.ClassFile.decode jdk_33_method_22_code 1 = .ok (.bipush (-128), 2) := by decide +kernel
theorem d_jdk_33_method_22_3 : Jvm.ClassFile.decode jdk_33_method_22_code 3 = .ok (.if_icmp .lt 20, 3) := by decide +kernel
theorem d_jdk_33_method_22_23 : Jvm.ClassFile.decode jdk_33_method_22_code 23 = .ok (.new 1, 3) := by decide +kernel
theorem d_jdk_33_method_22_26 : Jvm.ClassFile.decode jdk_33_method_22_code 26 = .ok (.dup, 1) := by decide +kernel
theorem d_jdk_33_method_22_27 : Jvm.ClassFile.decode jdk_33_method_22_code 27 = .ok (.iload_n 0, 1) := by decide +kernel
theorem d_jdk_33_method_22_28 : Jvm.ClassFile.decode jdk_33_method_22_code 28 = .ok (.invokespecial 199, 3) := by decide +kernel
theorem own_pd1 : parseMethodDescriptor "(I)V" = some ⟨[.int], none⟩ := by decide +kernel
theorem d_jdk_33_method_22_31 : Jvm.ClassFile.decode jdk_33_method_22_code 31 = .ok (.areturn, 1) := by decide +kernel
theorem d_jdk_33_method_22_6 : Jvm.ClassFile.decode jdk_33_method_22_code 6 = .ok (.iload_n 0, 1) := by decide +kernel
theorem d_jdk_33_method_22_7 : Jvm.ClassFile.decode jdk_33_method_22_code 7 = .ok (.getstatic 191, 3) := by decide +kernel
theorem d_jdk_33_method_22_10 : Jvm.ClassFile.decode jdk_33_method_22_code 10 = .ok (.if_icmp .gt 13, 3) := by decide +kernel
theorem d_jdk_33_method_22_13 : Jvm.ClassFile.decode jdk_33_method_22_code 13 = .ok (.getstatic 195, 3) := by decide +kernel
theorem d_jdk_33_method_22_16 : Jvm.ClassFile.decode jdk_33_method_22_code 16 = .ok (.iload_n 0, 1) := by decide +kernel
theorem d_jdk_33_method_22_17 : Jvm.ClassFile.decode jdk_33_method_22_code 17 = .ok (.sipush 128, 3) := by decide +kernel
theorem d_jdk_33_method_22_20 : Jvm.ClassFile.decode jdk_33_method_22_code 20 = .ok (.iadd, 1) := by decide +kernel
theorem d_jdk_33_method_22_21 : Jvm.ClassFile.decode jdk_33_method_22_code 21 = .ok (.aaload, 1) := by decide +kernel
theorem d_jdk_33_method_22_22 : Jvm.ClassFile.decode jdk_33_method_22_code 22 = .ok (.areturn, 1) := by decide +kernel
theorem own_ef_rm13 (m : MethodId) (x0 : Int32) : entryFrame m #[(.int x0)] 1 = mkF m 0 #[.val (.int x0)] [] := by first | (simp [entryFrame, mkF, argsToLocals, Value.category]; done) | rfl
set_option maxRecDepth 65536 in
set_option maxHeartbeats 40000000 in
theorem rm13 (l : Launch) (Z : State) (a0 : Array Value) (hw : ∀ d ∈ tables_1, d.before a0 Z = true) (ws : List Jvm.Cond) (p1 : Int32) (ca : Addr) (h0 : Heap) (n0 : Nat) (hn0 : n0 ≤ h0.size) (S_high : Sta Z h0 "java/lang/Integer$IntegerCache" "high" "I" (.int (127 : Int32))) (S_cache : Sta Z h0 "java/lang/Integer$IntegerCache" "cache" "[Ljava/lang/Integer;" (.ref ca)) (Ca : OwnCache Z h0 ca) :
    OwnMet l Z (⟨"java/lang/Integer", "valueOf", "(I)Ljava/lang/Integer;"⟩ : MethodName) jdk_33_method_22_code 1 (some (.object "java/lang/Integer")) ws ({ frames := 3, cells := 1, slots := 1, locals := 38 } : Room) #[(.int p1)] h0 (OwnQ_box Z h0 n0) := by
  refine own_body (plainFor_of_name own_pn1) ?_
  intro p e s m below meth c s₁ X0 hx hby hml hret hlk hown0 hnm hZ e0 hs0
  have hown : s.vm.findClass "java/lang/Integer" = some m.cls := hown0
  have N0 := Fr.nil n0
  refine own_entry (own_ef_rm13 m p1) ?_
  have K0 := Keep.refl h0 []
  show Go _ _ _ _ _ s₁ (mkF m 0 #[.val (.int p1)] [])
  refine own_go (fun t k => XS.iloadN X0.here hx rfl (hb hby d_jdk_33_method_22_0) rfl k) ?_
  show Go _ _ _ _ _ s₁ (mkF m 1 #[.val (.int p1)] [(.int p1)])
  refine own_go (fun t k => XS.bipush X0.here hx rfl (hb hby d_jdk_33_method_22_1) k) ?_
  show Go _ _ _ _ _ s₁ (mkF m 3 #[.val (.int p1)] [(.int (-128 : Int32)), (.int p1)])
  refine own_icmpP (p1 < (-128 : Int32)) X0 hx (hb hby d_jdk_33_method_22_3) (own_lt _ _) (by decide) (by decide) (pc' := 23) (fun hc4 => ?_) (fun hc4 => ?_)
  · skip
    show Go _ _ _ _ _ s₁ (mkF m 23 #[.val (.int p1)] [])
    obtain ⟨T5, h5, X5, e5, E5, A5, D5, -, st5⟩ := newO X0 hx hZ hown (hw _ (List.mem_of_getElem? (i := 76) rfl)) (hw _ (List.mem_of_getElem? (i := 77) rfl)) (hw _ (List.mem_of_getElem? (i := 72) rfl)) e0 (g := (mkF m 23 #[.val (.int p1)] [])) rfl (hb hby d_jdk_33_method_22_23) (by decide) (by decide)
    obtain ⟨b5, g5⟩ : ∃ z, z = h0.size := ⟨_, rfl⟩
    rw [← g5] at A5 D5 st5
    have ne_ca_b5 : ¬ ca = b5 := Nat.ne_of_lt (by rw [g5]; exact Ca.lt)
    replace S_high := S_high.ext E5
    replace S_cache := S_cache.ext E5
    replace Ca := Ca.ext E5
    have g_b5 : n0 ≤ b5 := by rw [g5]; exact hn0
    have hn5 : n0 ≤ h5.size := Nat.le_trans hn0 E5.1
    have F_value_b5 : Fld Z h5 b5 "java/lang/Integer" "value" "I" (.int (0 : Int32)) := D5 (Or.inr (hw _ (List.mem_of_getElem? (i := 90) rfl))) (ty := .int) (by decide)
    refine own_go (fun t k => st5 t k) ?_
    have sz_b5 : h0.size ≤ b5 := by rw [g5]; exact K0.1
    have K5 := K0.ext E5
    show Go _ _ _ _ _ T5 (mkF m 26 #[.val (.int p1)] [(.ref b5)])
    refine own_go (fun t k => XS.dup X5.here hx rfl (hb hby d_jdk_33_method_22_26) rfl rfl k) ?_
    show Go _ _ _ _ _ T5 (mkF m 27 #[.val (.int p1)] [(.ref b5), (.ref b5)])
    refine own_go (fun t k => XS.iloadN X5.here hx rfl (hb hby d_jdk_33_method_22_27) rfl k) ?_
    show Go _ _ _ _ _ T5 (mkF m 28 #[.val (.int p1)] [(.int p1), (.ref b5), (.ref b5)])
    refine own_callI X5 hx hZ (y := (⟨"java/lang/Integer", "<init>", "(I)V"⟩ : MethodName)) rfl hown (hw _ (List.mem_of_getElem? (i := 78) rfl)) (hw _ (List.mem_of_getElem? (i := 79) rfl)) (hw _ (List.mem_of_getElem? (i := 81) rfl)) (hw _ (List.mem_of_getElem? (i := 72) rfl)) (by decide) (rm14 l Z a0 hw [] b5 p1 h5 n0 hn5 A5 g_b5 F_value_b5 ) e5 (b := b5) (by rw [hml]; rfl) (argsL := [(.int p1)]) (rest := [(.ref b5)]) rfl rfl (lenOf own_pd1 rfl) (W := 1) (Nat.le_of_eq rfl) (by decide) (by decide) (hb hby d_jdk_33_method_22_28) (by decide) (by decide) ?_
    intro v6 T6 L6 X6 q6
    obtain ⟨rfl, N6q, K6, Ex6, F6_value⟩ := q6
    have N6 := Fr.app N0 N6q
    replace S_high := own_sta_keep S_high K6 (allS ⟨_, A5⟩ all0)
    replace S_cache := own_sta_keep S_cache K6 (allS ⟨_, A5⟩ all0)
    replace Ca := Ca.keep K6 (ninS ne_ca_b5 nin0)
    replace A5 := A5.keep K6
    have KK6 := K5.trans K6 (by intro x hx; cases List.mem_singleton.mp hx; exact Or.inr sz_b5)
    have hn6 : n0 ≤ T6.heap.size := Nat.le_trans hn5 K6.1
    show Go _ _ _ _ _ T6 (mkF m 31 #[.val (.int p1)] [(.ref b5)])
    refine own_retA X6 hx (own_lvN X6 hlk (by decide) (by decide)) hret rfl rfl (hb hby d_jdk_33_method_22_31) ?_
    skip
    exact ⟨_, rfl, N6, KK6, Ex6⟩
  · skip
    show Go _ _ _ _ _ s₁ (mkF m 6 #[.val (.int p1)] [])
    refine own_go (fun t k => XS.iloadN X0.here hx rfl (hb hby d_jdk_33_method_22_6) rfl k) ?_
    show Go _ _ _ _ _ s₁ (mkF m 7 #[.val (.int p1)] [(.int p1)])
    obtain ⟨T7, X7, e7, st7⟩ := getS2 X0 hx hZ hown (host := "") (Or.inl (hw _ (List.mem_of_getElem? (i := 74) rfl))) Via.refl e0 S_high (g := (mkF m 7 #[.val (.int p1)] [(.int p1)])) rfl (hb hby d_jdk_33_method_22_7)
    refine own_go (fun t k => st7 t k) ?_
    show Go _ _ _ _ _ T7 (mkF m 10 #[.val (.int p1)] [(.int (127 : Int32)), (.int p1)])
    refine own_icmpP ((127 : Int32) < p1) X7 hx (hb hby d_jdk_33_method_22_10) (own_gt _ _) (by decide) (by decide) (pc' := 23) (fun hc8 => ?_) (fun hc8 => ?_)
    · skip
      show Go _ _ _ _ _ T7 (mkF m 23 #[.val (.int p1)] [])
      obtain ⟨T9, h9, X9, e9, E9, A9, D9, -, st9⟩ := newO X7 hx hZ hown (hw _ (List.mem_of_getElem? (i := 76) rfl)) (hw _ (List.mem_of_getElem? (i := 77) rfl)) (hw _ (List.mem_of_getElem? (i := 72) rfl)) e7 (g := (mkF m 23 #[.val (.int p1)] [])) rfl (hb hby d_jdk_33_method_22_23) (by decide) (by decide)
      obtain ⟨b9, g9⟩ : ∃ z, z = h0.size := ⟨_, rfl⟩
      rw [← g9] at A9 D9 st9
      have ne_ca_b9 : ¬ ca = b9 := Nat.ne_of_lt (by rw [g9]; exact Ca.lt)
      replace S_high := S_high.ext E9
      replace S_cache := S_cache.ext E9
      replace Ca := Ca.ext E9
      have g_b9 : n0 ≤ b9 := by rw [g9]; exact hn0
      have hn9 : n0 ≤ h9.size := Nat.le_trans hn0 E9.1
      have F_value_b9 : Fld Z h9 b9 "java/lang/Integer" "value" "I" (.int (0 : Int32)) := D9 (Or.inr (hw _ (List.mem_of_getElem? (i := 90) rfl))) (ty := .int) (by decide)
      refine own_go (fun t k => st9 t k) ?_
      have sz_b9 : h0.size ≤ b9 := by rw [g9]; exact K0.1
      have K9 := K0.ext E9
      show Go _ _ _ _ _ T9 (mkF m 26 #[.val (.int p1)] [(.ref b9)])
      refine own_go (fun t k => XS.dup X9.here hx rfl (hb hby d_jdk_33_method_22_26) rfl rfl k) ?_
      show Go _ _ _ _ _ T9 (mkF m 27 #[.val (.int p1)] [(.ref b9), (.ref b9)])
      refine own_go (fun t k => XS.iloadN X9.here hx rfl (hb hby d_jdk_33_method_22_27) rfl k) ?_
      show Go _ _ _ _ _ T9 (mkF m 28 #[.val (.int p1)] [(.int p1), (.ref b9), (.ref b9)])
      refine own_callI X9 hx hZ (y := (⟨"java/lang/Integer", "<init>", "(I)V"⟩ : MethodName)) rfl hown (hw _ (List.mem_of_getElem? (i := 78) rfl)) (hw _ (List.mem_of_getElem? (i := 79) rfl)) (hw _ (List.mem_of_getElem? (i := 81) rfl)) (hw _ (List.mem_of_getElem? (i := 72) rfl)) (by decide) (rm14 l Z a0 hw [] b9 p1 h9 n0 hn9 A9 g_b9 F_value_b9 ) e9 (b := b9) (by rw [hml]; rfl) (argsL := [(.int p1)]) (rest := [(.ref b9)]) rfl rfl (lenOf own_pd1 rfl) (W := 1) (Nat.le_of_eq rfl) (by decide) (by decide) (hb hby d_jdk_33_method_22_28) (by decide) (by decide) ?_
      intro v10 T10 L10 X10 q10
      obtain ⟨rfl, N10q, K10, Ex10, F10_value⟩ := q10
      have N10 := Fr.app N0 N10q
      replace S_high := own_sta_keep S_high K10 (allS ⟨_, A9⟩ all0)
      replace S_cache := own_sta_keep S_cache K10 (allS ⟨_, A9⟩ all0)
      replace Ca := Ca.keep K10 (ninS ne_ca_b9 nin0)
      replace A9 := A9.keep K10
      have KK10 := K9.trans K10 (by intro x hx; cases List.mem_singleton.mp hx; exact Or.inr sz_b9)
      have hn10 : n0 ≤ T10.heap.size := Nat.le_trans hn9 K10.1
      show Go _ _ _ _ _ T10 (mkF m 31 #[.val (.int p1)] [(.ref b9)])
      refine own_retA X10 hx (own_lvN X10 hlk (by decide) (by decide)) hret rfl rfl (hb hby d_jdk_33_method_22_31) ?_
      skip
      exact ⟨_, rfl, N10, KK10, Ex10⟩
    · skip
      show Go _ _ _ _ _ T7 (mkF m 13 #[.val (.int p1)] [])
      obtain ⟨T11, X11, e11, st11⟩ := getS2 X7 hx hZ hown (host := "") (Or.inl (hw _ (List.mem_of_getElem? (i := 91) rfl))) Via.refl e7 S_cache (g := (mkF m 13 #[.val (.int p1)] [])) rfl (hb hby d_jdk_33_method_22_13)
      refine own_go (fun t k => st11 t k) ?_
      show Go _ _ _ _ _ T11 (mkF m 16 #[.val (.int p1)] [(.ref ca)])
      refine own_go (fun t k => XS.iloadN X11.here hx rfl (hb hby d_jdk_33_method_22_16) rfl k) ?_
      show Go _ _ _ _ _ T11 (mkF m 17 #[.val (.int p1)] [(.int p1), (.ref ca)])
      refine own_go (fun t k => XS.sipush X11.here hx rfl (hb hby d_jdk_33_method_22_17) k) ?_
      show Go _ _ _ _ _ T11 (mkF m 20 #[.val (.int p1)] [(.int (128 : Int32)), (.int p1), (.ref ca)])
      refine own_go (fun t k => XS.iadd X11.here hx rfl (hb hby d_jdk_33_method_22_20) rfl k) ?_
      show Go _ _ _ _ _ T11 (mkF m 21 #[.val (.int p1)] [(.int (p1 + (128 : Int32))), (.ref ca)])
      obtain ⟨cl, Ar, hsz, hel⟩ := Ca
      obtain ⟨hj1, hj2⟩ := own_cidx p1 hc4 hc8
      obtain ⟨bb, hat, Ebb⟩ := hel _ hj2
      refine own_go (fun t k => X11.aaload hx (j := (p1 + (128 : Int32))) (v := (.ref bb)) (by rw [e11]; exact Ar.1) (State.isArrayOf_alike hZ.alike Ar.2.1) rfl Ar.2.2 (fun q => q.elim hj1 (fun q => Nat.not_lt.mpr (hsz ▸ q) hj2)) hat (g := (mkF m 21 #[.val (.int p1)] [(.int (p1 + (128 : Int32))), (.ref ca)])) rfl rfl (hb hby d_jdk_33_method_22_21) _ k) ?_
      show Go _ _ _ _ _ T11 (mkF m 22 #[.val (.int p1)] [(.ref bb)])
      refine own_retA X11 hx (own_lvN X11 hlk (by decide) (by decide)) hret rfl rfl (hb hby d_jdk_33_method_22_22) ?_
      rw [e11]
      exact ⟨_, rfl, N0, K0, Ebb⟩
def OwnQ_rm16 (Z : State) (a1 : Addr) (p1 : Int64) (h0 : Heap) (n0 : Nat) (v : Option Value) (h : Heap) (L : List Loc) : Prop := v = none ∧ Fr n0 L ∧ Keep h0 h [a1] ∧ Exa Z h a1 "java/lang/Long" ∧ Fld Z h a1 "java/lang/Long" "value" "J" (.long p1)
theorem d_jdk_35_method_26_0 : Jvm.ClassFile.decode jdk_35_method_26_code 0 = .ok (.aload_n 0, 1) := by decide +kernel
theorem d_jdk_35_method_26_1 : Jvm.ClassFile.decode jdk_35_method_26_code 1 = .ok (.invokespecial 270, 3) := by decide +kernel
theorem d_jdk_35_method_26_4 : Jvm.ClassFile.decode jdk_35_method_26_code 4 = .ok (.aload_n 0, 1) := by decide +kernel
theorem d_jdk_35_method_26_5 : Jvm.ClassFile.decode jdk_35_method_26_code 5 = .ok (.lload_n 1, 1) := by decide +kernel
theorem d_jdk_35_method_26_6 : Jvm.ClassFile.decode jdk_35_method_26_code 6 = .ok (.putfield 273, 3) := by decide +kernel
theorem d_jdk_35_method_26_9 : Jvm.ClassFile.decode jdk_35_method_26_code 9 = .ok (.return_, 1) := by decide +kernel
theorem own_pn2 : plainName "java/lang/Long" = true := by first | (simp [plainName, overriddenIn]; done) | decide +kernel
theorem own_ef_rm16 (m : MethodId) (x0 : Addr) (x1 : Int64) : entryFrame m #[(.ref x0), (.long x1)] 3 = mkF m 0 #[.val (.ref x0), .val (.long x1), .second] [] := by first | (simp [entryFrame, mkF, argsToLocals, Value.category]; done) | rfl
set_option maxRecDepth 65536 in
set_option maxHeartbeats 40000000 in
theorem rm16 (l : Launch) (Z : State) (a0 : Array Value) (hw : ∀ d ∈ tables_1, d.before a0 Z = true) (ws : List Jvm.Cond) (a1 : Addr) (p1 : Int64) (h0 : Heap) (n0 : Nat) (hn0 : n0 ≤ h0.size) (E_a1 : Exa Z h0 a1 "java/lang/Long") (g_a1 : n0 ≤ a1) (F_value : Fld Z h0 a1 "java/lang/Long" "value" "J" (.long (0 : Int64))) :
    OwnMet l Z (⟨"java/lang/Long", "<init>", "(J)V"⟩ : MethodName) jdk_35_method_26_code 3 none ws ({ frames := 2, cells := 0, slots := 0, locals := 24 } : Room) #[(.ref a1), (.long p1)] h0 (OwnQ_rm16 Z a1 p1 h0 n0) := by
  refine own_body (plainFor_of_name own_pn2) ?_
  intro p e s m below meth c s₁ X0 hx hby hml hret hlk hown0 hnm hZ e0 hs0
  have hown : s.vm.findClass "java/lang/Long" = some m.cls := hown0
  have N0 := Fr.nil n0
  refine own_entry (own_ef_rm16 m a1 p1) ?_
  have K0 := Keep.refl h0 [a1]
  show Go _ _ _ _ _ s₁ (mkF m 0 #[.val (.ref a1), .val (.long p1), .second] [])
  refine own_go (fun t k => XS.aloadN X0.here hx rfl (hb hby d_jdk_35_method_26_0) rfl rfl k) ?_
  show Go _ _ _ _ _ s₁ (mkF m 1 #[.val (.ref a1), .val (.long p1), .second] [(.ref a1)])
  refine own_callI X0 hx hZ (y := (⟨"java/lang/Number", "<init>", "()V"⟩ : MethodName)) rfl hown (hw _ (List.mem_of_getElem? (i := 97) rfl)) (hw _ (List.mem_of_getElem? (i := 83) rfl)) (hw _ (List.mem_of_getElem? (i := 87) rfl)) (hw _ (List.mem_of_getElem? (i := 86) rfl)) (by decide) (rm15 l Z a0 hw [] a1 h0 n0 hn0) e0 (b := a1) (by rw [hml]; rfl) (argsL := []) (rest := []) rfl rfl (lenOf own_pd0 rfl) (W := 0) (Nat.le_of_eq rfl) (by decide) (by decide) (hb hby d_jdk_35_method_26_1) (by decide) (by decide) ?_
  intro v12 T12 L12 X12 q12
  obtain ⟨rfl, N12q, e12⟩ := q12
  have N12 := Fr.app N0 N12q
  show Go _ _ _ _ _ T12 (mkF m 4 #[.val (.ref a1), .val (.long p1), .second] [])
  refine own_go (fun t k => XS.aloadN X12.here hx rfl (hb hby d_jdk_35_method_26_4) rfl rfl k) ?_
  show Go _ _ _ _ _ T12 (mkF m 5 #[.val (.ref a1), .val (.long p1), .second] [(.ref a1)])
  refine own_go (fun t k => XS.lloadN X12.here hx rfl (hb hby d_jdk_35_method_26_5) rfl k) ?_
  show Go _ _ _ _ _ T12 (mkF m 6 #[.val (.ref a1), .val (.long p1), .second] [(.long p1), (.ref a1)])
  obtain ⟨T13, h13, X13, e13, W13, st13⟩ := putF X12 hx hZ hown (host := "") (Or.inl (hw _ (List.mem_of_getElem? (i := 43) rfl))) Via.refl e12 F_value E_a1 (Or.inr ⟨(hw _ (List.mem_of_getElem? (i := 44) rfl)), rfl, hnm⟩) (hw _ (List.mem_of_getElem? (i := 93) rfl)) (ty := .long) (by decide) rfl rfl (g := (mkF m 6 #[.val (.ref a1), .val (.long p1), .second] [(.long p1), (.ref a1)])) rfl rfl (hb hby d_jdk_35_method_26_6)
  replace E_a1 := E_a1.wr W13
  replace F_value := F_value.same W13
  have N13 := Fr.snoc X13 N12 g_a1
  have hn13 : n0 ≤ h13.size := Nat.le_trans hn0 (Keep.of_wr W13).1
  have K13 := K0.wr W13 (Or.inl (List.mem_of_getElem? (i := 0) rfl))
  refine own_go (fun t k => st13 t k) ?_
  show Go _ _ _ _ _ T13 (mkF m 9 #[.val (.ref a1), .val (.long p1), .second] [])
  refine own_retV X13 hx (own_lvN X13 hlk (by decide) (by decide)) hret (hb hby d_jdk_35_method_26_9) ?_
  rw [e13]
  exact ⟨rfl, N13, K13, E_a1, F_value⟩
def OwnQ_lbox (Z : State) (p1 : Int64) (h0 : Heap) (n0 : Nat) (v : Option Value) (h : Heap) (L : List Loc) : Prop := ∃ b, v = some (.ref b) ∧ Fr n0 L ∧ Keep h0 h [] ∧ Exa Z h b "java/lang/Long" ∧ Fld Z h b "java/lang/Long" "value" "J" (.long p1)
theorem d_jdk_35_method_24_0 : Jvm.ClassFile.decode jdk_35_method_24_code 0 = .ok (.sipush 128, 3) := by decide +kernel
theorem d_jdk_35_method_24_3 : Jvm.ClassFile.decode jdk_35_method_24_code 3 = .ok (.istore_n 2, 1) := by decide +kernel
theorem d_jdk_35_method_24_4 : Jvm.ClassFile.decode jdk_35_method_24_code 4 = .ok (.lload_n 0, 1) := by decide +kernel
theorem d_jdk_35_method_24_5 : Jvm.ClassFile.decode jdk_35_method_24_code 5 = .ok (.ldc2_w 230, 3) := by decide +kernel
theorem d_jdk_35_method_24_8 : Jvm.ClassFile.decode jdk_35_method_24_code 8 = .ok (.lcmp, 1) := by decide +kernel
theorem d_jdk_35_method_24_9 : Jvm.ClassFile.decode jdk_35_method_24_code 9 = .ok (.ifCond .lt 22, 3) := by decide +kernel
theorem d_jdk_35_method_24_31 : Jvm.ClassFile.decode jdk_35_method_24_code 31 = .ok (.new 1, 3) := by decide +kernel
theorem d_jdk_35_method_24_34 : Jvm.ClassFile.decode jdk_35_method_24_code 34 = .ok (.dup, 1) := by decide +kernel
theorem d_jdk_35_method_24_35 : Jvm.ClassFile.decode jdk_35_method_24_code 35 = .ok (.lload_n 0, 1) := by decide +kernel
theorem d_jdk_35_method_24_36 : Jvm.ClassFile.decode jdk_35_method_24_code 36 = .ok (.invokespecial 240, 3) := by decide +kernel
theorem own_pd2 : parseMethodDescriptor "(J)V" = some ⟨[.long], none⟩ := by decide +kernel
theorem d_jdk_35_method_24_39 : Jvm.ClassFile.decode jdk_35_method_24_code 39 = .ok (.areturn, 1) := by decide +kernel
theorem d_jdk_35_method_24_12 : Jvm.ClassFile.decode jdk_35_method_24_code 12 = .ok (.lload_n 0, 1) := by decide +kernel
theorem d_jdk_35_method_24_13 : Jvm.ClassFile.decode jdk_35_method_24_code 13 = .ok (.ldc2_w 232, 3) := by decide +kernel
theorem d_jdk_35_method_24_16 : Jvm.ClassFile.decode jdk_35_method_24_code 16 = .ok (.lcmp, 1) := by decide +kernel
theorem d_jdk_35_method_24_17 : Jvm.ClassFile.decode jdk_35_method_24_code 17 = .ok (.ifCond .gt 14, 3) := by decide +kernel
theorem d_jdk_35_method_24_20 : Jvm.ClassFile.decode jdk_35_method_24_code 20 = .ok (.getstatic 234, 3) := by decide +kernel
theorem d_jdk_35_method_24_23 : Jvm.ClassFile.decode jdk_35_method_24_code 23 = .ok (.lload_n 0, 1) := by decide +kernel
theorem d_jdk_35_method_24_24 : Jvm.ClassFile.decode jdk_35_method_24_code 24 = .ok (.l2i, 1) := by decide +kernel
theorem d_jdk_35_method_24_25 : Jvm.ClassFile.decode jdk_35_method_24_code 25 = .ok (.sipush 128, 3) := by decide +kernel
theorem d_jdk_35_method_24_28 : Jvm.ClassFile.decode jdk_35_method_24_code 28 = .ok (.iadd, 1) := by decide +kernel
theorem d_jdk_35_method_24_29 : Jvm.ClassFile.decode jdk_35_method_24_code 29 = .ok (.aaload, 1) := by decide +kernel
theorem d_jdk_35_method_24_30 : Jvm.ClassFile.decode jdk_35_method_24_code 30 = .ok (.areturn, 1) := by decide +kernel
theorem own_ef_rm_lbox (m : MethodId) (x0 : Int64) : entryFrame m #[(.long x0)] 3 = mkF m 0 #[.val (.long x0), .second, .unset] [] := by first | (simp [entryFrame, mkF, argsToLocals, Value.category]; done) | rfl
set_option maxRecDepth 65536 in
set_option maxHeartbeats 40000000 in
theorem rm_lbox (l : Launch) (Z : State) (a0 : Array Value) (hw : ∀ d ∈ tables_1, d.before a0 Z = true) (ws : List Jvm.Cond) (p1 : Int64) (la : Addr) (h0 : Heap) (n0 : Nat) (hn0 : n0 ≤ h0.size) (S_lc : Sta Z h0 "java/lang/Long$LongCache" "cache" "[Ljava/lang/Long;" (.ref la)) (La : OwnLCache Z n0 h0 la) :
    OwnMet l Z (⟨"java/lang/Long", "valueOf", "(J)Ljava/lang/Long;"⟩ : MethodName) jdk_35_method_24_code 3 (some (.object "java/lang/Long")) ws ({ frames := 3, cells := 1, slots := 1, locals := 39 } : Room) #[(.long p1)] h0 (OwnQ_lbox Z p1 h0 n0) := by
  refine own_body (plainFor_of_name own_pn2) ?_
  intro p e s m below meth c s₁ X0 hx hby hml hret hlk hown0 hnm hZ e0 hs0
  have hown : s.vm.findClass "java/lang/Long" = some m.cls := hown0
  have N0 := Fr.nil n0
  refine own_entry (own_ef_rm_lbox m p1) ?_
  have K0 := Keep.refl h0 []
  show Go _ _ _ _ _ s₁ (mkF m 0 #[.val (.long p1), .second, .unset] [])
  refine own_go (fun t k => XS.sipush X0.here hx rfl (hb hby d_jdk_35_method_24_0) k) ?_
  show Go _ _ _ _ _ s₁ (mkF m 3 #[.val (.long p1), .second, .unset] [(.int (128 : Int32))])
  refine own_go (fun t k => XS.istoreN X0.here hx rfl (hb hby d_jdk_35_method_24_3) rfl (l' := #[.val (.long p1), .second, .val (.int (128 : Int32))]) rfl k) ?_
  show Go _ _ _ _ _ s₁ (mkF m 4 #[.val (.long p1), .second, .val (.int (128 : Int32))] [])
  refine own_go (fun t k => XS.lloadN X0.here hx rfl (hb hby d_jdk_35_method_24_4) rfl k) ?_
  show Go _ _ _ _ _ s₁ (mkF m 5 #[.val (.long p1), .second, .val (.int (128 : Int32))] [(.long p1)])
  refine own_go (fun t k => X0.ldc2Long hx hown (mvT hZ (hw _ (List.mem_of_getElem? (i := 29) rfl))) (g := (mkF m 5 #[.val (.long p1), .second, .val (.int (128 : Int32))] [(.long p1)])) rfl (hb hby d_jdk_35_method_24_5) _ k) ?_
  show Go _ _ _ _ _ s₁ (mkF m 8 #[.val (.long p1), .second, .val (.int (128 : Int32))] [(.long (-128 : Int64)), (.long p1)])
  refine own_go (fun t k => XS.lcmp X0.here hx rfl (hb hby d_jdk_35_method_24_8) rfl k) ?_
  show Go _ _ _ _ _ s₁ (mkF m 9 #[.val (.long p1), .second, .val (.int (128 : Int32))] [(.int (lcmpW p1 (-128 : Int64)))])
  refine own_ifP ((lcmpW p1 (-128 : Int64)) < (0 : Int32)) X0 hx (hb hby d_jdk_35_method_24_9) (own_lt _ _) (by decide) (by decide) (pc' := 31) (fun hc14 => ?_) (fun hc14 => ?_)
  · skip
    show Go _ _ _ _ _ s₁ (mkF m 31 #[.val (.long p1), .second, .val (.int (128 : Int32))] [])
    obtain ⟨T15, h15, X15, e15, E15, A15, D15, -, st15⟩ := newO X0 hx hZ hown (hw _ (List.mem_of_getElem? (i := 92) rfl)) (hw _ (List.mem_of_getElem? (i := 93) rfl)) (hw _ (List.mem_of_getElem? (i := 27) rfl)) e0 (g := (mkF m 31 #[.val (.long p1), .second, .val (.int (128 : Int32))] [])) rfl (hb hby d_jdk_35_method_24_31) (by decide) (by decide)
    obtain ⟨b15, g15⟩ : ∃ z, z = h0.size := ⟨_, rfl⟩
    rw [← g15] at A15 D15 st15
    have ne_la_b15 : ¬ la = b15 := Nat.ne_of_lt (by rw [g15]; exact La.lt)
    replace S_lc := S_lc.ext E15
    replace La := La.ext E15
    have g_b15 : n0 ≤ b15 := by rw [g15]; exact hn0
    have hn15 : n0 ≤ h15.size := Nat.le_trans hn0 E15.1
    have F_value_b15 : Fld Z h15 b15 "java/lang/Long" "value" "J" (.long (0 : Int64)) := D15 (Or.inr (hw _ (List.mem_of_getElem? (i := 44) rfl))) (ty := .long) (by decide)
    refine own_go (fun t k => st15 t k) ?_
    have sz_b15 : h0.size ≤ b15 := by rw [g15]; exact K0.1
    have K15 := K0.ext E15
    show Go _ _ _ _ _ T15 (mkF m 34 #[.val (.long p1), .second, .val (.int (128 : Int32))] [(.ref b15)])
    refine own_go (fun t k => XS.dup X15.here hx rfl (hb hby d_jdk_35_method_24_34) rfl rfl k) ?_
    show Go _ _ _ _ _ T15 (mkF m 35 #[.val (.long p1), .second, .val (.int (128 : Int32))] [(.ref b15), (.ref b15)])
    refine own_go (fun t k => XS.lloadN X15.here hx rfl (hb hby d_jdk_35_method_24_35) rfl k) ?_
    show Go _ _ _ _ _ T15 (mkF m 36 #[.val (.long p1), .second, .val (.int (128 : Int32))] [(.long p1), (.ref b15), (.ref b15)])
    refine own_callI X15 hx hZ (y := (⟨"java/lang/Long", "<init>", "(J)V"⟩ : MethodName)) rfl hown (hw _ (List.mem_of_getElem? (i := 94) rfl)) (hw _ (List.mem_of_getElem? (i := 95) rfl)) (hw _ (List.mem_of_getElem? (i := 96) rfl)) (hw _ (List.mem_of_getElem? (i := 27) rfl)) (by decide) (rm16 l Z a0 hw [] b15 p1 h15 n0 hn15 A15 g_b15 F_value_b15 ) e15 (b := b15) (by rw [hml]; rfl) (argsL := [(.long p1)]) (rest := [(.ref b15)]) rfl rfl (lenOf own_pd2 rfl) (W := 1) (Nat.le_of_eq rfl) (by decide) (by decide) (hb hby d_jdk_35_method_24_36) (by decide) (by decide) ?_
    intro v16 T16 L16 X16 q16
    obtain ⟨rfl, N16q, K16, Ex16, F16_value⟩ := q16
    have N16 := Fr.app N0 N16q
    replace S_lc := own_sta_keep S_lc K16 (allS ⟨_, A15⟩ all0)
    replace La := La.keep K16 (allS g_b15 all0)
    replace A15 := A15.keep K16
    have KK16 := K15.trans K16 (by intro x hx; cases List.mem_singleton.mp hx; exact Or.inr sz_b15)
    have hn16 : n0 ≤ T16.heap.size := Nat.le_trans hn15 K16.1
    show Go _ _ _ _ _ T16 (mkF m 39 #[.val (.long p1), .second, .val (.int (128 : Int32))] [(.ref b15)])
    refine own_retA X16 hx (own_lvN X16 hlk (by decide) (by decide)) hret rfl rfl (hb hby d_jdk_35_method_24_39) ?_
    skip
    exact ⟨_, rfl, N16, KK16, Ex16, F16_value⟩
  · skip
    show Go _ _ _ _ _ s₁ (mkF m 12 #[.val (.long p1), .second, .val (.int (128 : Int32))] [])
    refine own_go (fun t k => XS.lloadN X0.here hx rfl (hb hby d_jdk_35_method_24_12) rfl k) ?_
    show Go _ _ _ _ _ s₁ (mkF m 13 #[.val (.long p1), .second, .val (.int (128 : Int32))] [(.long p1)])
    refine own_go (fun t k => X0.ldc2Long hx hown (mvT hZ (hw _ (List.mem_of_getElem? (i := 30) rfl))) (g := (mkF m 13 #[.val (.long p1), .second, .val (.int (128 : Int32))] [(.long p1)])) rfl (hb hby d_jdk_35_method_24_13) _ k) ?_
    show Go _ _ _ _ _ s₁ (mkF m 16 #[.val (.long p1), .second, .val (.int (128 : Int32))] [(.long (127 : Int64)), (.long p1)])
    refine own_go (fun t k => XS.lcmp X0.here hx rfl (hb hby d_jdk_35_method_24_16) rfl k) ?_
    show Go _ _ _ _ _ s₁ (mkF m 17 #[.val (.long p1), .second, .val (.int (128 : Int32))] [(.int (lcmpW p1 (127 : Int64)))])
    refine own_ifP ((0 : Int32) < (lcmpW p1 (127 : Int64))) X0 hx (hb hby d_jdk_35_method_24_17) (own_gt _ _) (by decide) (by decide) (pc' := 31) (fun hc17 => ?_) (fun hc17 => ?_)
    · skip
      show Go _ _ _ _ _ s₁ (mkF m 31 #[.val (.long p1), .second, .val (.int (128 : Int32))] [])
      obtain ⟨T18, h18, X18, e18, E18, A18, D18, -, st18⟩ := newO X0 hx hZ hown (hw _ (List.mem_of_getElem? (i := 92) rfl)) (hw _ (List.mem_of_getElem? (i := 93) rfl)) (hw _ (List.mem_of_getElem? (i := 27) rfl)) e0 (g := (mkF m 31 #[.val (.long p1), .second, .val (.int (128 : Int32))] [])) rfl (hb hby d_jdk_35_method_24_31) (by decide) (by decide)
      obtain ⟨b18, g18⟩ : ∃ z, z = h0.size := ⟨_, rfl⟩
      rw [← g18] at A18 D18 st18
      have ne_la_b18 : ¬ la = b18 := Nat.ne_of_lt (by rw [g18]; exact La.lt)
      replace S_lc := S_lc.ext E18
      replace La := La.ext E18
      have g_b18 : n0 ≤ b18 := by rw [g18]; exact hn0
      have hn18 : n0 ≤ h18.size := Nat.le_trans hn0 E18.1
      have F_value_b18 : Fld Z h18 b18 "java/lang/Long" "value" "J" (.long (0 : Int64)) := D18 (Or.inr (hw _ (List.mem_of_getElem? (i := 44) rfl))) (ty := .long) (by decide)
      refine own_go (fun t k => st18 t k) ?_
      have sz_b18 : h0.size ≤ b18 := by rw [g18]; exact K0.1
      have K18 := K0.ext E18
      show Go _ _ _ _ _ T18 (mkF m 34 #[.val (.long p1), .second, .val (.int (128 : Int32))] [(.ref b18)])
      refine own_go (fun t k => XS.dup X18.here hx rfl (hb hby d_jdk_35_method_24_34) rfl rfl k) ?_
      show Go _ _ _ _ _ T18 (mkF m 35 #[.val (.long p1), .second, .val (.int (128 : Int32))] [(.ref b18), (.ref b18)])
      refine own_go (fun t k => XS.lloadN X18.here hx rfl (hb hby d_jdk_35_method_24_35) rfl k) ?_
      show Go _ _ _ _ _ T18 (mkF m 36 #[.val (.long p1), .second, .val (.int (128 : Int32))] [(.long p1), (.ref b18), (.ref b18)])
      refine own_callI X18 hx hZ (y := (⟨"java/lang/Long", "<init>", "(J)V"⟩ : MethodName)) rfl hown (hw _ (List.mem_of_getElem? (i := 94) rfl)) (hw _ (List.mem_of_getElem? (i := 95) rfl)) (hw _ (List.mem_of_getElem? (i := 96) rfl)) (hw _ (List.mem_of_getElem? (i := 27) rfl)) (by decide) (rm16 l Z a0 hw [] b18 p1 h18 n0 hn18 A18 g_b18 F_value_b18 ) e18 (b := b18) (by rw [hml]; rfl) (argsL := [(.long p1)]) (rest := [(.ref b18)]) rfl rfl (lenOf own_pd2 rfl) (W := 1) (Nat.le_of_eq rfl) (by decide) (by decide) (hb hby d_jdk_35_method_24_36) (by decide) (by decide) ?_
      intro v19 T19 L19 X19 q19
      obtain ⟨rfl, N19q, K19, Ex19, F19_value⟩ := q19
      have N19 := Fr.app N0 N19q
      replace S_lc := own_sta_keep S_lc K19 (allS ⟨_, A18⟩ all0)
      replace La := La.keep K19 (allS g_b18 all0)
      replace A18 := A18.keep K19
      have KK19 := K18.trans K19 (by intro x hx; cases List.mem_singleton.mp hx; exact Or.inr sz_b18)
      have hn19 : n0 ≤ T19.heap.size := Nat.le_trans hn18 K19.1
      show Go _ _ _ _ _ T19 (mkF m 39 #[.val (.long p1), .second, .val (.int (128 : Int32))] [(.ref b18)])
      refine own_retA X19 hx (own_lvN X19 hlk (by decide) (by decide)) hret rfl rfl (hb hby d_jdk_35_method_24_39) ?_
      skip
      exact ⟨_, rfl, N19, KK19, Ex19, F19_value⟩
    · skip
      show Go _ _ _ _ _ s₁ (mkF m 20 #[.val (.long p1), .second, .val (.int (128 : Int32))] [])
      obtain ⟨T20, X20, e20, st20⟩ := getS2 X0 hx hZ hown (host := "") (Or.inl (hw _ (List.mem_of_getElem? (i := 31) rfl))) Via.refl e0 S_lc (g := (mkF m 20 #[.val (.long p1), .second, .val (.int (128 : Int32))] [])) rfl (hb hby d_jdk_35_method_24_20)
      refine own_go (fun t k => st20 t k) ?_
      show Go _ _ _ _ _ T20 (mkF m 23 #[.val (.long p1), .second, .val (.int (128 : Int32))] [(.ref la)])
      refine own_go (fun t k => XS.lloadN X20.here hx rfl (hb hby d_jdk_35_method_24_23) rfl k) ?_
      show Go _ _ _ _ _ T20 (mkF m 24 #[.val (.long p1), .second, .val (.int (128 : Int32))] [(.long p1), (.ref la)])
      refine own_go (fun t k => XS.l2i X20.here hx rfl (hb hby d_jdk_35_method_24_24) rfl k) ?_
      show Go _ _ _ _ _ T20 (mkF m 25 #[.val (.long p1), .second, .val (.int (128 : Int32))] [(.int (p1.toInt32)), (.ref la)])
      refine own_go (fun t k => XS.sipush X20.here hx rfl (hb hby d_jdk_35_method_24_25) k) ?_
      show Go _ _ _ _ _ T20 (mkF m 28 #[.val (.long p1), .second, .val (.int (128 : Int32))] [(.int (128 : Int32)), (.int (p1.toInt32)), (.ref la)])
      refine own_go (fun t k => XS.iadd X20.here hx rfl (hb hby d_jdk_35_method_24_28) rfl k) ?_
      show Go _ _ _ _ _ T20 (mkF m 29 #[.val (.long p1), .second, .val (.int (128 : Int32))] [(.int ((p1.toInt32) + (128 : Int32))), (.ref la)])
      obtain ⟨cl, Ar, hsz, -, hel⟩ := La
      obtain ⟨hj1, hj2, hj3⟩ := own_lidx p1 hc14 hc17
      obtain ⟨bb, hat, -, Ebb, Fbb⟩ := hel _ hj2
      rw [hj3] at Fbb
      refine own_go (fun t k => X20.aaload hx (j := ((p1.toInt32) + (128 : Int32))) (v := (.ref bb)) (by rw [e20]; exact Ar.1) (State.isArrayOf_alike hZ.alike Ar.2.1) rfl Ar.2.2 (fun q => q.elim hj1 (fun q => Nat.not_lt.mpr (hsz ▸ q) hj2)) hat (g := (mkF m 29 #[.val (.long p1), .second, .val (.int (128 : Int32))] [(.int ((p1.toInt32) + (128 : Int32))), (.ref la)])) rfl rfl (hb hby d_jdk_35_method_24_29) _ k) ?_
      show Go _ _ _ _ _ T20 (mkF m 30 #[.val (.long p1), .second, .val (.int (128 : Int32))] [(.ref bb)])
      refine own_retA X20 hx (own_lvN X20 hlk (by decide) (by decide)) hret rfl rfl (hb hby d_jdk_35_method_24_30) ?_
      rw [e20]
      exact ⟨_, rfl, N0, K0, Ebb, Fbb⟩
theorem d_jdk_43_method_3_0 : Jvm.ClassFile.decode jdk_43_method_3_code 0 = .ok (.iload_n 0, 1) := by decide +kernel
theorem d_jdk_43_method_3_1 : Jvm.ClassFile.decode jdk_43_method_3_code 1 = .ok (.sipush 255, 3) := by decide +kernel
theorem d_jdk_43_method_3_4 : Jvm.ClassFile.decode jdk_43_method_3_code 4 = .ok (.if_icmp .gt 7, 3) := by decide +kernel
theorem d_jdk_43_method_3_11 : Jvm.ClassFile.decode jdk_43_method_3_code 11 = .ok (.iconst 0, 1) := by decide +kernel
theorem d_jdk_43_method_3_12 : Jvm.ClassFile.decode jdk_43_method_3_code 12 = .ok (.ireturn, 1) := by decide +kernel
theorem d_jdk_43_method_3_7 : Jvm.ClassFile.decode jdk_43_method_3_code 7 = .ok (.iconst 1, 1) := by decide +kernel
theorem d_jdk_43_method_3_8 : Jvm.ClassFile.decode jdk_43_method_3_code 8 = .ok (.goto 4, 3) := by decide +kernel
def own_f_rm_enc (p1 : Int32) : Int32 := (if (255 : Int32) < p1 then (0 : Int32) else (1 : Int32))
theorem own_pn3 : plainName "java/lang/StringLatin1" = true := by first | (simp [plainName, overriddenIn]; done) | decide +kernel
theorem own_ef_rm_enc (m : MethodId) (x0 : Int32) : entryFrame m #[(.int x0)] 1 = mkF m 0 #[.val (.int x0)] [] := by first | (simp [entryFrame, mkF, argsToLocals, Value.category]; done) | rfl
set_option maxRecDepth 65536 in
set_option maxHeartbeats 40000000 in
theorem rm_enc (l : Launch) (Z : State) (a0 : Array Value) (hw : ∀ d ∈ tables_1, d.before a0 Z = true) (ws : List Jvm.Cond) (p1 : Int32) (r : Int32) (h0 : Heap) (n0 : Nat) (hn0 : n0 ≤ h0.size) (hr : own_f_rm_enc p1 = r) :
    OwnMet l Z (⟨"java/lang/StringLatin1", "canEncode", "(C)Z"⟩ : MethodName) jdk_43_method_3_code 1 (some .boolean) ws ({ frames := 0, cells := 0, slots := 0, locals := 0 } : Room) #[(.int p1)] h0 (OwnP (some (.int r)) h0 n0) := by
  refine own_body (plainFor_of_name own_pn3) ?_
  intro p e s m below meth c s₁ X0 hx hby hml hret hlk hown0 hnm hZ e0 hs0
  have hown : s.vm.findClass "java/lang/StringLatin1" = some m.cls := hown0
  have N0 := Fr.nil n0
  refine own_entry (own_ef_rm_enc m p1) ?_
  show Go _ _ _ _ _ s₁ (mkF m 0 #[.val (.int p1)] [])
  refine own_go (fun t k => XS.iloadN X0.here hx rfl (hb hby d_jdk_43_method_3_0) rfl k) ?_
  show Go _ _ _ _ _ s₁ (mkF m 1 #[.val (.int p1)] [(.int p1)])
  refine own_go (fun t k => XS.sipush X0.here hx rfl (hb hby d_jdk_43_method_3_1) k) ?_
  show Go _ _ _ _ _ s₁ (mkF m 4 #[.val (.int p1)] [(.int (255 : Int32)), (.int p1)])
  refine own_icmpP ((255 : Int32) < p1) X0 hx (hb hby d_jdk_43_method_3_4) (own_gt _ _) (by decide) (by decide) (pc' := 11) (fun hc22 => ?_) (fun hc22 => ?_)
  · skip
    show Go _ _ _ _ _ s₁ (mkF m 11 #[.val (.int p1)] [])
    refine own_go (fun t k => XS.iconst X0.here hx rfl (hb hby d_jdk_43_method_3_11) k) ?_
    show Go _ _ _ _ _ s₁ (mkF m 12 #[.val (.int p1)] [(.int (0 : Int32))])
    refine own_retN X0 hx (own_lvN X0 hlk (by decide) (by decide)) (t := .boolean) hret (by simp) (hb hby d_jdk_43_method_3_12) ?_
    exact ⟨(by rw [← hr, own_f_rm_enc, if_pos hc22]; try rfl), N0, e0⟩
  · skip
    show Go _ _ _ _ _ s₁ (mkF m 7 #[.val (.int p1)] [])
    refine own_go (fun t k => XS.iconst X0.here hx rfl (hb hby d_jdk_43_method_3_7) k) ?_
    show Go _ _ _ _ _ s₁ (mkF m 8 #[.val (.int p1)] [(.int (1 : Int32))])
    refine own_go (fun t k => XS.goto X0.here hx rfl (pc0 := 8) (pc' := 12) rfl (hb hby d_jdk_43_method_3_8) (by decide) (by decide) k) ?_
    show Go _ _ _ _ _ s₁ (mkF m 12 #[.val (.int p1)] [(.int (1 : Int32))])
    refine own_retN X0 hx (own_lvN X0 hlk (by decide) (by decide)) (t := .boolean) hret (by simp) (hb hby d_jdk_43_method_3_12) ?_
    exact ⟨(by rw [← hr, own_f_rm_enc, if_neg hc22]; try rfl), N0, e0⟩
def OwnQ_tb (Z : State) (h0 : Heap) (n0 : Nat) (v : Option Value) (h : Heap) (L : List Loc) : Prop := ∃ b, v = some (.ref b) ∧ Fr n0 L ∧ Keep h0 h [] ∧ h0.size ≤ b ∧ b < h.size
theorem d_jdk_43_method_46_0 : Jvm.ClassFile.decode jdk_43_method_46_code 0 = .ok (.iconst 1, 1) := by decide +kernel
theorem d_jdk_43_method_46_1 : Jvm.ClassFile.decode jdk_43_method_46_code 1 = .ok (.newarray .byte, 2) := by decide +kernel
theorem d_jdk_43_method_46_3 : Jvm.ClassFile.decode jdk_43_method_46_code 3 = .ok (.dup, 1) := by decide +kernel
theorem d_jdk_43_method_46_4 : Jvm.ClassFile.decode jdk_43_method_46_code 4 = .ok (.iconst 0, 1) := by decide +kernel
theorem d_jdk_43_method_46_5 : Jvm.ClassFile.decode jdk_43_method_46_code 5 = .ok (.iload_n 0, 1) := by decide +kernel
theorem d_jdk_43_method_46_6 : Jvm.ClassFile.decode jdk_43_method_46_code 6 = .ok (.i2b, 1) := by decide +kernel
theorem d_jdk_43_method_46_7 : Jvm.ClassFile.decode jdk_43_method_46_code 7 = .ok (.bastore, 1) := by decide +kernel
theorem d_jdk_43_method_46_8 : Jvm.ClassFile.decode jdk_43_method_46_code 8 = .ok (.areturn, 1) := by decide +kernel
theorem own_ef_rm_tb (m : MethodId) (x0 : Int32) : entryFrame m #[(.int x0)] 1 = mkF m 0 #[.val (.int x0)] [] := by first | (simp [entryFrame, mkF, argsToLocals, Value.category]; done) | rfl
set_option maxRecDepth 65536 in
set_option maxHeartbeats 40000000 in
theorem rm_tb (l : Launch) (Z : State) (a0 : Array Value) (hw : ∀ d ∈ tables_1, d.before a0 Z = true) (ws : List Jvm.Cond) (p1 : Int32) (h0 : Heap) (n0 : Nat) (hn0 : n0 ≤ h0.size)  :
    OwnMet l Z (⟨"java/lang/StringLatin1", "toBytes", "(C)[B"⟩ : MethodName) jdk_43_method_46_code 1 (some (.array .byte)) ws ({ frames := 0, cells := 1, slots := 1, locals := 0 } : Room) #[(.int p1)] h0 (OwnQ_tb Z h0 n0) := by
  refine own_body (plainFor_of_name own_pn3) ?_
  intro p e s m below meth c s₁ X0 hx hby hml hret hlk hown0 hnm hZ e0 hs0
  have hown : s.vm.findClass "java/lang/StringLatin1" = some m.cls := hown0
  have N0 := Fr.nil n0
  refine own_entry (own_ef_rm_tb m p1) ?_
  have K0 := Keep.refl h0 []
  show Go _ _ _ _ _ s₁ (mkF m 0 #[.val (.int p1)] [])
  refine own_go (fun t k => XS.iconst X0.here hx rfl (hb hby d_jdk_43_method_46_0) k) ?_
  show Go _ _ _ _ _ s₁ (mkF m 1 #[.val (.int p1)] [(.int (1 : Int32))])
  obtain ⟨T23, h23, k23, X23, e23, E23, A23, st23⟩ := newP X0 hx hZ (hw _ (List.mem_of_getElem? (i := 59) rfl)) e0 (g := (mkF m 1 #[.val (.int p1)] [(.int (1 : Int32))])) rfl (hb hby d_jdk_43_method_46_1) rfl (by decide) (cap := 1) (by decide) (by decide) (by decide) (by decide)
  obtain ⟨b23, g23⟩ : ∃ z, z = h0.size := ⟨_, rfl⟩
  rw [← g23] at A23 st23
  have g_b23 : n0 ≤ b23 := by rw [g23]; exact hn0
  have hn23 : n0 ≤ h23.size := Nat.le_trans hn0 E23.1
  have sz_b23 : h0.size ≤ b23 := by rw [g23]; exact K0.1
  have K23 := K0.ext E23
  refine own_go (fun t k => st23 t k) ?_
  have V23 : Arv Z h23 b23 k23 .byte (1 : Int32) [(.int (0 : Int32))] (.int (0 : Int32)) := (Arv.new A23 (by decide)).pad (pad_rep [] (.int (0 : Int32)) 1)
  show Go _ _ _ _ _ T23 (mkF m 3 #[.val (.int p1)] [(.ref b23)])
  refine own_go (fun t k => XS.dup X23.here hx rfl (hb hby d_jdk_43_method_46_3) rfl rfl k) ?_
  show Go _ _ _ _ _ T23 (mkF m 4 #[.val (.int p1)] [(.ref b23), (.ref b23)])
  refine own_go (fun t k => XS.iconst X23.here hx rfl (hb hby d_jdk_43_method_46_4) k) ?_
  show Go _ _ _ _ _ T23 (mkF m 5 #[.val (.int p1)] [(.int (0 : Int32)), (.ref b23), (.ref b23)])
  refine own_go (fun t k => XS.iloadN X23.here hx rfl (hb hby d_jdk_43_method_46_5) rfl k) ?_
  show Go _ _ _ _ _ T23 (mkF m 6 #[.val (.int p1)] [(.int p1), (.int (0 : Int32)), (.ref b23), (.ref b23)])
  refine own_go (fun t k => XS.i2b X23.here hx rfl (hb hby d_jdk_43_method_46_6) rfl k) ?_
  show Go _ _ _ _ _ T23 (mkF m 7 #[.val (.int p1)] [(.int (p1.toInt8.toInt32)), (.int (0 : Int32)), (.ref b23), (.ref b23)])
  obtain ⟨cl24, Ar24, q24, S24, N24z, H24, G24⟩ := V23
  have hin24 := inb_of S24 (j := (0 : Int32)) (z := (1 : Int32)) ⟨by decide, by decide⟩
  obtain ⟨T24, h24, X24, e24, W24, st24⟩ := stB X23 hx hZ e23 Ar24 (j := (0 : Int32)) hin24 (g := (mkF m 7 #[.val (.int p1)] [(.int (p1.toInt8.toInt32)), (.int (0 : Int32)), (.ref b23), (.ref b23)])) rfl rfl (hb hby d_jdk_43_method_46_7)
  have V24 : Arv Z h24 b23 k23 .byte (1 : Int32) [(.int (nar .byte (p1.toInt8.toInt32)))] (.int (0 : Int32)) := Arv.set Ar24 q24 S24 N24z H24 G24 (fits_nar_byte _) W24 0 rfl (Nat.le_of_ble_eq_true rfl)
  have N24 := Fr.snoc X24 N0 g_b23
  have hn24 : n0 ≤ h24.size := Nat.le_trans hn23 (Keep.of_wr W24).1
  have K24 := K23.wr W24 (Or.inr sz_b23)
  refine own_go (fun t k => st24 t k) ?_
  show Go _ _ _ _ _ T24 (mkF m 8 #[.val (.int p1)] [(.ref b23)])
  refine own_retA X24 hx (own_lvN X24 hlk (by decide) (by decide)) hret rfl rfl (hb hby d_jdk_43_method_46_8) ?_
  rw [e24]
  exact ⟨_, rfl, N24, K24, sz_b23, V24.lt⟩
def OwnQ_rm_sinit (Z : State) (a1 : Addr) (p1 : Addr) (h0 : Heap) (n0 : Nat) (v : Option Value) (h : Heap) (L : List Loc) : Prop := v = none ∧ Fr n0 L ∧ Keep h0 h [a1] ∧ Exa Z h a1 "java/lang/String" ∧ Fld Z h a1 "java/lang/String" "value" "[B" (.ref p1) ∧ Fld Z h a1 "java/lang/String" "coder" "B" (.int (0 : Int32))
theorem d_jdk_42_method_151_0 : Jvm.ClassFile.decode jdk_42_method_151_code 0 = .ok (.aload_n 0, 1) := by decide +kernel
theorem d_jdk_42_method_151_1 : Jvm.ClassFile.decode jdk_42_method_151_code 1 = .ok (.invokespecial 1, 3) := by decide +kernel
theorem d_jdk_42_method_151_4 : Jvm.ClassFile.decode jdk_42_method_151_code 4 = .ok (.aload_n 0, 1) := by decide +kernel
theorem d_jdk_42_method_151_5 : Jvm.ClassFile.decode jdk_42_method_151_code 5 = .ok (.aload_n 1, 1) := by decide +kernel
theorem d_jdk_42_method_151_6 : Jvm.ClassFile.decode jdk_42_method_151_code 6 = .ok (.putfield 9, 3) := by decide +kernel
theorem d_jdk_42_method_151_9 : Jvm.ClassFile.decode jdk_42_method_151_code 9 = .ok (.aload_n 0, 1) := by decide +kernel
theorem d_jdk_42_method_151_10 : Jvm.ClassFile.decode jdk_42_method_151_code 10 = .ok (.iload_n 2, 1) := by decide +kernel
theorem d_jdk_42_method_151_11 : Jvm.ClassFile.decode jdk_42_method_151_code 11 = .ok (.putfield 15, 3) := by decide +kernel
theorem d_jdk_42_method_151_14 : Jvm.ClassFile.decode jdk_42_method_151_code 14 = .ok (.return_, 1) := by decide +kernel
theorem own_pn4 : plainName "java/lang/String" = true := by first | (simp [plainName, overriddenIn]; done) | decide +kernel
theorem own_ef_rm_sinit (m : MethodId) (x0 : Addr) (x1 : Addr) : entryFrame m #[(.ref x0), (.ref x1), (.int (0 : Int32))] 3 = mkF m 0 #[.val (.ref x0), .val (.ref x1), .val (.int (0 : Int32))] [] := by first | (simp [entryFrame, mkF, argsToLocals, Value.category]; done) | rfl
set_option maxRecDepth 65536 in
set_option maxHeartbeats 40000000 in
theorem rm_sinit (l : Launch) (Z : State) (a0 : Array Value) (hw : ∀ d ∈ tables_1, d.before a0 Z = true) (ws : List Jvm.Cond) (a1 : Addr) (p1 : Addr) (h0 : Heap) (n0 : Nat) (hn0 : n0 ≤ h0.size) (E_a1 : Exa Z h0 a1 "java/lang/String") (g_a1 : n0 ≤ a1) (F_value : Fld Z h0 a1 "java/lang/String" "value" "[B" .null) (F_coder : Fld Z h0 a1 "java/lang/String" "coder" "B" (.int (0 : Int32))) :
    OwnMet l Z (⟨"java/lang/String", "<init>", "([BB)V"⟩ : MethodName) jdk_42_method_151_code 3 none ws ({ frames := 1, cells := 0, slots := 0, locals := 12 } : Room) #[(.ref a1), (.ref p1), (.int (0 : Int32))] h0 (OwnQ_rm_sinit Z a1 p1 h0 n0) := by
  refine own_body (plainFor_of_name own_pn4) ?_
  intro p e s m below meth c s₁ X0 hx hby hml hret hlk hown0 hnm hZ e0 hs0
  have hown : s.vm.findClass "java/lang/String" = some m.cls := hown0
  have N0 := Fr.nil n0
  refine own_entry (own_ef_rm_sinit m a1 p1) ?_
  have K0 := Keep.refl h0 [a1]
  show Go _ _ _ _ _ s₁ (mkF m 0 #[.val (.ref a1), .val (.ref p1), .val (.int (0 : Int32))] [])
  refine own_go (fun t k => XS.aloadN X0.here hx rfl (hb hby d_jdk_42_method_151_0) rfl rfl k) ?_
  show Go _ _ _ _ _ s₁ (mkF m 1 #[.val (.ref a1), .val (.ref p1), .val (.int (0 : Int32))] [(.ref a1)])
  obtain ⟨T25, X25, e25, st25⟩ := initO X0 hx hZ hown (hw _ (List.mem_of_getElem? (i := 64) rfl)) (hw _ (List.mem_of_getElem? (i := 11) rfl)) (hw _ (List.mem_of_getElem? (i := 12) rfl)) e0 (g := (mkF m 1 #[.val (.ref a1), .val (.ref p1), .val (.int (0 : Int32))] [(.ref a1)])) rfl (by rw [hml]; rfl) rfl (hb hby d_jdk_42_method_151_1) (by decide) (W := 0) (by show 2 * 0 + _ ≤ _; exact Nat.le_of_eq rfl) (by decide)
  refine own_go (fun t k => st25 t k) ?_
  show Go _ _ _ _ _ T25 (mkF m 4 #[.val (.ref a1), .val (.ref p1), .val (.int (0 : Int32))] [])
  refine own_go (fun t k => XS.aloadN X25.here hx rfl (hb hby d_jdk_42_method_151_4) rfl rfl k) ?_
  show Go _ _ _ _ _ T25 (mkF m 5 #[.val (.ref a1), .val (.ref p1), .val (.int (0 : Int32))] [(.ref a1)])
  refine own_go (fun t k => XS.aloadN X25.here hx rfl (hb hby d_jdk_42_method_151_5) rfl rfl k) ?_
  show Go _ _ _ _ _ T25 (mkF m 6 #[.val (.ref a1), .val (.ref p1), .val (.int (0 : Int32))] [(.ref p1), (.ref a1)])
  obtain ⟨T26, h26, X26, e26, W26, st26⟩ := putF X25 hx hZ hown (host := "") (Or.inl (hw _ (List.mem_of_getElem? (i := 65) rfl))) Via.refl e25 F_value E_a1 (Or.inr ⟨(hw _ (List.mem_of_getElem? (i := 66) rfl)), rfl, hnm⟩) (hw _ (List.mem_of_getElem? (i := 55) rfl)) (ty := (.array .byte)) (by decide) rfl rfl (g := (mkF m 6 #[.val (.ref a1), .val (.ref p1), .val (.int (0 : Int32))] [(.ref p1), (.ref a1)])) rfl rfl (hb hby d_jdk_42_method_151_6)
  replace E_a1 := E_a1.wr W26
  replace F_value := F_value.same W26
  replace F_coder := F_coder.other W26 (Or.inr (slot_ne (Or.inr (hw _ (List.mem_of_getElem? (i := 68) rfl))) (Or.inr (hw _ (List.mem_of_getElem? (i := 66) rfl))) (by decide) (t := .byte) (t' := (.array .byte)) (by decide) (by decide)))
  have N26 := Fr.snoc X26 N0 g_a1
  have hn26 : n0 ≤ h26.size := Nat.le_trans hn0 (Keep.of_wr W26).1
  have K26 := K0.wr W26 (Or.inl (List.mem_of_getElem? (i := 0) rfl))
  refine own_go (fun t k => st26 t k) ?_
  show Go _ _ _ _ _ T26 (mkF m 9 #[.val (.ref a1), .val (.ref p1), .val (.int (0 : Int32))] [])
  refine own_go (fun t k => XS.aloadN X26.here hx rfl (hb hby d_jdk_42_method_151_9) rfl rfl k) ?_
  show Go _ _ _ _ _ T26 (mkF m 10 #[.val (.ref a1), .val (.ref p1), .val (.int (0 : Int32))] [(.ref a1)])
  refine own_go (fun t k => XS.iloadN X26.here hx rfl (hb hby d_jdk_42_method_151_10) rfl k) ?_
  show Go _ _ _ _ _ T26 (mkF m 11 #[.val (.ref a1), .val (.ref p1), .val (.int (0 : Int32))] [(.int (0 : Int32)), (.ref a1)])
  obtain ⟨T27, h27, X27, e27, W27, st27⟩ := putFN X26 hx hZ hown (hw _ (List.mem_of_getElem? (i := 67) rfl)) Via.refl e26 F_coder E_a1 (Or.inr ⟨(hw _ (List.mem_of_getElem? (i := 68) rfl)), rfl, hnm⟩) (hw _ (List.mem_of_getElem? (i := 55) rfl)) (ty := .byte) (v' := (.int (0 : Int32))) (by decide) rfl (fits_nar_byte (0 : Int32)) (g := (mkF m 11 #[.val (.ref a1), .val (.ref p1), .val (.int (0 : Int32))] [(.int (0 : Int32)), (.ref a1)])) rfl rfl (hb hby d_jdk_42_method_151_11)
  replace E_a1 := E_a1.wr W27
  replace F_value := F_value.other W27 (Or.inr (slot_ne (Or.inr (hw _ (List.mem_of_getElem? (i := 66) rfl))) (Or.inr (hw _ (List.mem_of_getElem? (i := 68) rfl))) (by decide) (t := (.array .byte)) (t' := .byte) (by decide) (by decide)))
  replace F_coder := F_coder.same W27
  have N27 := Fr.snoc X27 N26 g_a1
  have hn27 : n0 ≤ h27.size := Nat.le_trans hn26 (Keep.of_wr W27).1
  have K27 := K26.wr W27 (Or.inl (List.mem_of_getElem? (i := 0) rfl))
  refine own_go (fun t k => st27 t k) ?_
  show Go _ _ _ _ _ T27 (mkF m 14 #[.val (.ref a1), .val (.ref p1), .val (.int (0 : Int32))] [])
  refine own_retV X27 hx (own_lvN X27 hlk (by decide) (by decide)) hret (hb hby d_jdk_42_method_151_14) ?_
  rw [e27]
  exact ⟨rfl, N27, K27, E_a1, F_value, F_coder⟩
def OwnQ_sv (Z : State) (h0 : Heap) (n0 : Nat) (v : Option Value) (h : Heap) (L : List Loc) : Prop := ∃ b, v = some (.ref b) ∧ Fr n0 L ∧ Keep h0 h [] ∧ Exa Z h b "java/lang/String"
theorem d_jdk_42_method_139_0 : Jvm.ClassFile.decode jdk_42_method_139_code 0 = .ok (.getstatic 38, 3) := by decide +kernel
theorem d_jdk_42_method_139_3 : Jvm.ClassFile.decode jdk_42_method_139_code 3 = .ok (.ifCond .eq 23, 3) := by decide +kernel
theorem d_jdk_42_method_139_6 : Jvm.ClassFile.decode jdk_42_method_139_code 6 = .ok (.iload_n 0, 1) := by decide +kernel
theorem d_jdk_42_method_139_7 : Jvm.ClassFile.decode jdk_42_method_139_code 7 = .ok (.invokestatic 1015, 3) := by decide +kernel
theorem own_pd3 : parseMethodDescriptor "(C)Z" = some ⟨[.char], some .boolean⟩ := by decide +kernel
theorem d_jdk_42_method_139_10 : Jvm.ClassFile.decode jdk_42_method_139_code 10 = .ok (.ifCond .eq 16, 3) := by decide +kernel
theorem d_jdk_42_method_139_13 : Jvm.ClassFile.decode jdk_42_method_139_code 13 = .ok (.new 10, 3) := by decide +kernel
theorem d_jdk_42_method_139_16 : Jvm.ClassFile.decode jdk_42_method_139_code 16 = .ok (.dup, 1) := by decide +kernel
theorem d_jdk_42_method_139_17 : Jvm.ClassFile.decode jdk_42_method_139_code 17 = .ok (.iload_n 0, 1) := by decide +kernel
theorem d_jdk_42_method_139_18 : Jvm.ClassFile.decode jdk_42_method_139_code 18 = .ok (.invokestatic 1018, 3) := by decide +kernel
theorem own_pd4 : parseMethodDescriptor "(C)[B" = some ⟨[.char], some (.array .byte)⟩ := by decide +kernel
theorem d_jdk_42_method_139_21 : Jvm.ClassFile.decode jdk_42_method_139_code 21 = .ok (.iconst 0, 1) := by decide +kernel
theorem d_jdk_42_method_139_22 : Jvm.ClassFile.decode jdk_42_method_139_code 22 = .ok (.invokespecial 209, 3) := by decide +kernel
theorem own_pd5 : parseMethodDescriptor "([BB)V" = some ⟨[(.array .byte), .byte], none⟩ := by decide +kernel
theorem d_jdk_42_method_139_25 : Jvm.ClassFile.decode jdk_42_method_139_code 25 = .ok (.areturn, 1) := by decide +kernel
theorem own_ef_rm_sv (m : MethodId) (x0 : Int32) : entryFrame m #[(.int x0)] 1 = mkF m 0 #[.val (.int x0)] [] := by first | (simp [entryFrame, mkF, argsToLocals, Value.category]; done) | rfl
set_option maxRecDepth 65536 in
set_option maxHeartbeats 40000000 in
theorem rm_sv (l : Launch) (Z : State) (a0 : Array Value) (hw : ∀ d ∈ tables_1, d.before a0 Z = true) (ws : List Jvm.Cond) (p1 : Int32) (cs : Int32) (h0 : Heap) (n0 : Nat) (hn0 : n0 ≤ h0.size) (S_cs : Sta Z h0 "java/lang/String" "COMPACT_STRINGS" "Z" (.int cs)) (hcs : ¬ cs = (0 : Int32)) (hp1 : ¬ (255 : Int32) < p1) :
    OwnMet l Z (⟨"java/lang/String", "valueOf", "(C)Ljava/lang/String;"⟩ : MethodName) jdk_42_method_139_code 1 (some (.object "java/lang/String")) ws ({ frames := 2, cells := 2, slots := 5, locals := 27 } : Room) #[(.int p1)] h0 (OwnQ_sv Z h0 n0) := by
  refine own_body (plainFor_of_name own_pn4) ?_
  intro p e s m below meth c s₁ X0 hx hby hml hret hlk hown0 hnm hZ e0 hs0
  have hown : s.vm.findClass "java/lang/String" = some m.cls := hown0
  have N0 := Fr.nil n0
  refine own_entry (own_ef_rm_sv m p1) ?_
  have K0 := Keep.refl h0 []
  show Go _ _ _ _ _ s₁ (mkF m 0 #[.val (.int p1)] [])
  obtain ⟨T28, X28, e28, st28⟩ := getS2 X0 hx hZ hown (host := "") (Or.inl (hw _ (List.mem_of_getElem? (i := 49) rfl))) Via.refl e0 S_cs (g := (mkF m 0 #[.val (.int p1)] [])) rfl (hb hby d_jdk_42_method_139_0)
  refine own_go (fun t k => st28 t k) ?_
  show Go _ _ _ _ _ T28 (mkF m 3 #[.val (.int p1)] [(.int cs)])
  refine own_go (fun t k => XS.ifNo X28.here hx rfl (hb hby d_jdk_42_method_139_3) rfl ((if0 _ _).trans (feq hcs).1) k) ?_
  show Go _ _ _ _ _ T28 (mkF m 6 #[.val (.int p1)] [])
  refine own_go (fun t k => XS.iloadN X28.here hx rfl (hb hby d_jdk_42_method_139_6) rfl k) ?_
  show Go _ _ _ _ _ T28 (mkF m 7 #[.val (.int p1)] [(.int p1)])
  refine own_callS X28 hx hZ (y := (⟨"java/lang/StringLatin1", "canEncode", "(C)Z"⟩ : MethodName)) hown (hw _ (List.mem_of_getElem? (i := 50) rfl)) (hw _ (List.mem_of_getElem? (i := 51) rfl)) (hw _ (List.mem_of_getElem? (i := 52) rfl)) (hw _ (List.mem_of_getElem? (i := 53) rfl)) (by decide) (rm_enc l Z a0 hw [] p1 (1 : Int32) h0 n0 hn0  (by rw [own_f_rm_enc, if_neg hp1]; try first | rfl | decide)) e28 (by rw [hml]; rfl) (argsL := [(.int p1)]) (rest := []) rfl rfl (lenOf own_pd3 rfl) (W := 0) (Nat.le_of_eq rfl) (by decide) (by decide) (hb hby d_jdk_42_method_139_7) (by decide) (by decide) ?_
  intro v29 T29 L29 X29 q29
  obtain ⟨rfl, N29q, e29⟩ := q29
  have N29 := Fr.app N0 N29q
  show Go _ _ _ _ _ T29 (mkF m 10 #[.val (.int p1)] [(.int (1 : Int32))])
  refine own_go (fun t k => XS.ifNo X29.here hx rfl (hb hby d_jdk_42_method_139_10) rfl (by decide) k) ?_
  show Go _ _ _ _ _ T29 (mkF m 13 #[.val (.int p1)] [])
  obtain ⟨T30, h30, X30, e30, E30, A30, D30, -, st30⟩ := newO X29 hx hZ hown (hw _ (List.mem_of_getElem? (i := 54) rfl)) (hw _ (List.mem_of_getElem? (i := 55) rfl)) (hw _ (List.mem_of_getElem? (i := 47) rfl)) e29 (g := (mkF m 13 #[.val (.int p1)] [])) rfl (hb hby d_jdk_42_method_139_13) (by decide) (by decide)
  obtain ⟨b30, g30⟩ : ∃ z, z = h0.size := ⟨_, rfl⟩
  rw [← g30] at A30 D30 st30
  replace S_cs := S_cs.ext E30
  have g_b30 : n0 ≤ b30 := by rw [g30]; exact hn0
  have hn30 : n0 ≤ h30.size := Nat.le_trans hn0 E30.1
  have F_value_b30 : Fld Z h30 b30 "java/lang/String" "value" "[B" .null := D30 (Or.inr (hw _ (List.mem_of_getElem? (i := 66) rfl))) (ty := (.array .byte)) (by decide)
  have F_coder_b30 : Fld Z h30 b30 "java/lang/String" "coder" "B" (.int (0 : Int32)) := D30 (Or.inr (hw _ (List.mem_of_getElem? (i := 68) rfl))) (ty := .byte) (by decide)
  refine own_go (fun t k => st30 t k) ?_
  have sz_b30 : h0.size ≤ b30 := by rw [g30]; exact K0.1
  have K30 := K0.ext E30
  show Go _ _ _ _ _ T30 (mkF m 16 #[.val (.int p1)] [(.ref b30)])
  refine own_go (fun t k => XS.dup X30.here hx rfl (hb hby d_jdk_42_method_139_16) rfl rfl k) ?_
  show Go _ _ _ _ _ T30 (mkF m 17 #[.val (.int p1)] [(.ref b30), (.ref b30)])
  refine own_go (fun t k => XS.iloadN X30.here hx rfl (hb hby d_jdk_42_method_139_17) rfl k) ?_
  show Go _ _ _ _ _ T30 (mkF m 18 #[.val (.int p1)] [(.int p1), (.ref b30), (.ref b30)])
  refine own_callS X30 hx hZ (y := (⟨"java/lang/StringLatin1", "toBytes", "(C)[B"⟩ : MethodName)) hown (hw _ (List.mem_of_getElem? (i := 56) rfl)) (hw _ (List.mem_of_getElem? (i := 57) rfl)) (hw _ (List.mem_of_getElem? (i := 52) rfl)) (hw _ (List.mem_of_getElem? (i := 58) rfl)) (by decide) (rm_tb l Z a0 hw [] p1 h30 n0 hn30) e30 (by rw [hml]; rfl) (argsL := [(.int p1)]) (rest := [(.ref b30), (.ref b30)]) rfl rfl (lenOf own_pd4 rfl) (W := 2) (Nat.le_of_eq rfl) (by decide) (by decide) (hb hby d_jdk_42_method_139_18) (by decide) (by decide) ?_
  intro v31 T31 L31 X31 q31
  obtain ⟨b31, rfl, N31q, K31, hb31, -⟩ := q31
  have N31 := Fr.app N29 N31q
  have ne_b30_b31 : ¬ b30 = b31 := Nat.ne_of_lt (Nat.lt_of_lt_of_le A30.lt hb31)
  replace S_cs := own_sta_keep S_cs K31 all0
  replace F_value_b30 := F_value_b30.keep K31 nin0
  replace F_coder_b30 := F_coder_b30.keep K31 nin0
  replace A30 := A30.keep K31
  have hn31 : n0 ≤ T31.heap.size := Nat.le_trans hn30 K31.1
  have KK31 := K30.trans K31 all0
  show Go _ _ _ _ _ T31 (mkF m 21 #[.val (.int p1)] [(.ref b31), (.ref b30), (.ref b30)])
  refine own_go (fun t k => XS.iconst X31.here hx rfl (hb hby d_jdk_42_method_139_21) k) ?_
  show Go _ _ _ _ _ T31 (mkF m 22 #[.val (.int p1)] [(.int (0 : Int32)), (.ref b31), (.ref b30), (.ref b30)])
  refine own_callI X31 hx hZ (y := (⟨"java/lang/String", "<init>", "([BB)V"⟩ : MethodName)) rfl hown (hw _ (List.mem_of_getElem? (i := 60) rfl)) (hw _ (List.mem_of_getElem? (i := 61) rfl)) (hw _ (List.mem_of_getElem? (i := 63) rfl)) (hw _ (List.mem_of_getElem? (i := 47) rfl)) (by decide) (rm_sinit l Z a0 hw [] b30 b31 T31.heap n0 hn31 A30 g_b30 F_value_b30 F_coder_b30 ) rfl (b := b30) (by rw [hml]; rfl) (argsL := [(.ref b31), (.int (0 : Int32))]) (rest := [(.ref b30)]) rfl rfl (lenOf own_pd5 rfl) (W := 1) (Nat.le_of_eq rfl) (by decide) (by decide) (hb hby d_jdk_42_method_139_22) (by decide) (by decide) ?_
  intro v32 T32 L32 X32 q32
  obtain ⟨rfl, N32q, K32, Ex32, F32_value, F32_coder⟩ := q32
  have N32 := Fr.app N31 N32q
  replace S_cs := own_sta_keep S_cs K32 (allS ⟨_, A30⟩ all0)
  replace A30 := A30.keep K32
  have KK32 := KK31.trans K32 (by intro x hx; cases List.mem_singleton.mp hx; exact Or.inr sz_b30)
  have hn32 : n0 ≤ T32.heap.size := Nat.le_trans hn31 K32.1
  show Go _ _ _ _ _ T32 (mkF m 25 #[.val (.int p1)] [(.ref b30)])
  refine own_retA X32 hx (own_lvN X32 hlk (by decide) (by decide)) hret rfl rfl (hb hby d_jdk_42_method_139_25) ?_
  skip
  exact ⟨_, rfl, N32, KK32, Ex32⟩
theorem own_c255 (x : Int32) : ¬ (255 : Int32) < ((x &&& (255 : Int32)).toUInt32.toUInt16.toUInt32.toInt32) := by
  have h := c_and x (255 : Int32) (by decide)
  have k : (255 : Int32).toInt = 255 := by decide
  have c := c_i2c (x &&& (255 : Int32))
  rw [k] at h
  rw [Int32.lt_iff_toInt_lt, k]
  omega
def OwnQ_pick (Z : State) (p1 : Int32) (h0 : Heap) (n0 : Nat) (v : Option Value) (h : Heap) (L : List Loc) : Prop := ∃ pv, v = some pv ∧ pv.isRef = true ∧ own_nv pv = own_nz p1 ∧ Fr n0 L ∧ Keep h0 h []
theorem d_method_2_0 : Jvm.ClassFile.decode method_2_code 0 = .ok (.iload_n 0, 1) := by decide +kernel
theorem d_method_2_1 : Jvm.ClassFile.decode method_2_code 1 = .ok (.ifCond .ne 5, 3) := by decide +kernel
theorem d_method_2_6 : Jvm.ClassFile.decode method_2_code 6 = .ok (.iload_n 0, 1) := by decide +kernel
theorem d_method_2_7 : Jvm.ClassFile.decode method_2_code 7 = .ok (.iconst 1, 1) := by decide +kernel
theorem d_method_2_8 : Jvm.ClassFile.decode method_2_code 8 = .ok (.if_icmp .ne 8, 3) := by decide +kernel
theorem d_method_2_16 : Jvm.ClassFile.decode method_2_code 16 = .ok (.iload_n 0, 1) := by decide +kernel
theorem d_method_2_17 : Jvm.ClassFile.decode method_2_code 17 = .ok (.iconst 2, 1) := by decide +kernel
theorem d_method_2_18 : Jvm.ClassFile.decode method_2_code 18 = .ok (.if_icmp .ne 8, 3) := by decide +kernel
theorem d_method_2_26 : Jvm.ClassFile.decode method_2_code 26 = .ok (.iload_n 1, 1) := by decide +kernel
theorem d_method_2_27 : Jvm.ClassFile.decode method_2_code 27 = .ok (.sipush 255, 3) := by decide +kernel
theorem d_method_2_30 : Jvm.ClassFile.decode method_2_code 30 = .ok (.iand, 1) := by decide +kernel
theorem d_method_2_31 : Jvm.ClassFile.decode method_2_code 31 = .ok (.i2c, 1) := by decide +kernel
theorem d_method_2_32 : Jvm.ClassFile.decode method_2_code 32 = .ok (.invokestatic 18, 3) := by decide +kernel
theorem own_pd6 : parseMethodDescriptor "(C)Ljava/lang/String;" = some ⟨[.char], some (.object "java/lang/String")⟩ := by decide +kernel
theorem d_method_2_35 : Jvm.ClassFile.decode method_2_code 35 = .ok (.areturn, 1) := by decide +kernel
theorem d_method_2_21 : Jvm.ClassFile.decode method_2_code 21 = .ok (.lload_n 2, 1) := by decide +kernel
theorem d_method_2_22 : Jvm.ClassFile.decode method_2_code 22 = .ok (.invokestatic 13, 3) := by decide +kernel
theorem own_pd7 : parseMethodDescriptor "(J)Ljava/lang/Long;" = some ⟨[.long], some (.object "java/lang/Long")⟩ := by decide +kernel
theorem d_method_2_25 : Jvm.ClassFile.decode method_2_code 25 = .ok (.areturn, 1) := by decide +kernel
theorem d_method_2_11 : Jvm.ClassFile.decode method_2_code 11 = .ok (.iload_n 1, 1) := by decide +kernel
theorem d_method_2_12 : Jvm.ClassFile.decode method_2_code 12 = .ok (.invokestatic 7, 3) := by decide +kernel
theorem own_pd8 : parseMethodDescriptor "(I)Ljava/lang/Integer;" = some ⟨[.int], some (.object "java/lang/Integer")⟩ := by decide +kernel
theorem d_method_2_15 : Jvm.ClassFile.decode method_2_code 15 = .ok (.areturn, 1) := by decide +kernel
theorem d_method_2_4 : Jvm.ClassFile.decode method_2_code 4 = .ok (.aconst_null, 1) := by decide +kernel
theorem d_method_2_5 : Jvm.ClassFile.decode method_2_code 5 = .ok (.areturn, 1) := by decide +kernel
theorem own_pn5 : plainName "com/example/tallyfold/tallyfold/aggregate/CountAddPinLaw" = true := by first | (simp [plainName, overriddenIn]; done) | decide +kernel
theorem own_ef_rm_pick (m : MethodId) (x0 : Int32) (x1 : Int32) (x2 : Int64) : entryFrame m #[(.int x0), (.int x1), (.long x2)] 4 = mkF m 0 #[.val (.int x0), .val (.int x1), .val (.long x2), .second] [] := by first | (simp [entryFrame, mkF, argsToLocals, Value.category]; done) | rfl
set_option maxRecDepth 65536 in
set_option maxHeartbeats 40000000 in
theorem rm_pick (l : Launch) (Z : State) (a0 : Array Value) (hw : ∀ d ∈ tables_1, d.before a0 Z = true) (ws : List Jvm.Cond) (p1 : Int32) (p2 : Int32) (p3 : Int64) (ca : Addr) (la : Addr) (cs : Int32) (h0 : Heap) (n0 : Nat) (hn0 : n0 ≤ h0.size) (S_high : Sta Z h0 "java/lang/Integer$IntegerCache" "high" "I" (.int (127 : Int32))) (S_cache : Sta Z h0 "java/lang/Integer$IntegerCache" "cache" "[Ljava/lang/Integer;" (.ref ca)) (Ca : OwnCache Z h0 ca) (S_lc : Sta Z h0 "java/lang/Long$LongCache" "cache" "[Ljava/lang/Long;" (.ref la)) (La : OwnLCache Z n0 h0 la) (S_cs : Sta Z h0 "java/lang/String" "COMPACT_STRINGS" "Z" (.int cs)) (hcs : ¬ cs = (0 : Int32)) :
    OwnMet l Z (⟨"com/example/tallyfold/tallyfold/aggregate/CountAddPinLaw", "pick", "(IIJ)Ljava/lang/Object;"⟩ : MethodName) method_2_code 4 (some (.object "java/lang/Object")) ws ({ frames := 4, cells := 2, slots := 5, locals := 53 } : Room) #[(.int p1), (.int p2), (.long p3)] h0 (OwnQ_pick Z p1 h0 n0) := by
  refine own_body (plainFor_of_name own_pn5) ?_
  intro p e s m below meth c s₁ X0 hx hby hml hret hlk hown0 hnm hZ e0 hs0
  have hown : s.vm.findClass "com/example/tallyfold/tallyfold/aggregate/CountAddPinLaw" = some m.cls := hown0
  have N0 := Fr.nil n0
  refine own_entry (own_ef_rm_pick m p1 p2 p3) ?_
  have K0 := Keep.refl h0 []
  show Go _ _ _ _ _ s₁ (mkF m 0 #[.val (.int p1), .val (.int p2), .val (.long p3), .second] [])
  refine own_go (fun t k => XS.iloadN X0.here hx rfl (hb hby d_method_2_0) rfl k) ?_
  show Go _ _ _ _ _ s₁ (mkF m 1 #[.val (.int p1), .val (.int p2), .val (.long p3), .second] [(.int p1)])
  refine own_ifM (p1 = (0 : Int32)) X0 hx (hb hby d_method_2_1) (own_ne _ _) (by decide) (by decide) (pc' := 6) (fun hc33 => ?_) (fun hc33 => ?_)
  · skip
    show Go _ _ _ _ _ s₁ (mkF m 6 #[.val (.int p1), .val (.int p2), .val (.long p3), .second] [])
    refine own_go (fun t k => XS.iloadN X0.here hx rfl (hb hby d_method_2_6) rfl k) ?_
    show Go _ _ _ _ _ s₁ (mkF m 7 #[.val (.int p1), .val (.int p2), .val (.long p3), .second] [(.int p1)])
    refine own_go (fun t k => XS.iconst X0.here hx rfl (hb hby d_method_2_7) k) ?_
    show Go _ _ _ _ _ s₁ (mkF m 8 #[.val (.int p1), .val (.int p2), .val (.long p3), .second] [(.int (1 : Int32)), (.int p1)])
    refine own_icmpM (p1 = (1 : Int32)) X0 hx (hb hby d_method_2_8) (own_ne _ _) (by decide) (by decide) (pc' := 16) (fun hc34 => ?_) (fun hc34 => ?_)
    · skip
      show Go _ _ _ _ _ s₁ (mkF m 16 #[.val (.int p1), .val (.int p2), .val (.long p3), .second] [])
      refine own_go (fun t k => XS.iloadN X0.here hx rfl (hb hby d_method_2_16) rfl k) ?_
      show Go _ _ _ _ _ s₁ (mkF m 17 #[.val (.int p1), .val (.int p2), .val (.long p3), .second] [(.int p1)])
      refine own_go (fun t k => XS.iconst X0.here hx rfl (hb hby d_method_2_17) k) ?_
      show Go _ _ _ _ _ s₁ (mkF m 18 #[.val (.int p1), .val (.int p2), .val (.long p3), .second] [(.int (2 : Int32)), (.int p1)])
      refine own_icmpM (p1 = (2 : Int32)) X0 hx (hb hby d_method_2_18) (own_ne _ _) (by decide) (by decide) (pc' := 26) (fun hc35 => ?_) (fun hc35 => ?_)
      · skip
        show Go _ _ _ _ _ s₁ (mkF m 26 #[.val (.int p1), .val (.int p2), .val (.long p3), .second] [])
        refine own_go (fun t k => XS.iloadN X0.here hx rfl (hb hby d_method_2_26) rfl k) ?_
        show Go _ _ _ _ _ s₁ (mkF m 27 #[.val (.int p1), .val (.int p2), .val (.long p3), .second] [(.int p2)])
        refine own_go (fun t k => XS.sipush X0.here hx rfl (hb hby d_method_2_27) k) ?_
        show Go _ _ _ _ _ s₁ (mkF m 30 #[.val (.int p1), .val (.int p2), .val (.long p3), .second] [(.int (255 : Int32)), (.int p2)])
        refine own_go (fun t k => XS.iand X0.here hx rfl (hb hby d_method_2_30) rfl k) ?_
        show Go _ _ _ _ _ s₁ (mkF m 31 #[.val (.int p1), .val (.int p2), .val (.long p3), .second] [(.int (p2 &&& (255 : Int32)))])
        refine own_go (fun t k => XS.i2c X0.here hx rfl (hb hby d_method_2_31) rfl k) ?_
        show Go _ _ _ _ _ s₁ (mkF m 32 #[.val (.int p1), .val (.int p2), .val (.long p3), .second] [(.int ((p2 &&& (255 : Int32)).toUInt32.toUInt16.toUInt32.toInt32))])
        refine own_callS X0 hx hZ (y := (⟨"java/lang/String", "valueOf", "(C)Ljava/lang/String;"⟩ : MethodName)) hown (hw _ (List.mem_of_getElem? (i := 45) rfl)) (hw _ (List.mem_of_getElem? (i := 46) rfl)) (hw _ (List.mem_of_getElem? (i := 47) rfl)) (hw _ (List.mem_of_getElem? (i := 48) rfl)) (by decide) (rm_sv l Z a0 hw [] ((p2 &&& (255 : Int32)).toUInt32.toUInt16.toUInt32.toInt32) cs h0 n0 hn0 S_cs hcs (own_c255 p2)) e0 (by rw [hml]; rfl) (argsL := [(.int ((p2 &&& (255 : Int32)).toUInt32.toUInt16.toUInt32.toInt32))]) (rest := []) rfl rfl (lenOf own_pd6 rfl) (W := 0) (Nat.le_of_eq rfl) (by decide) (by decide) (hb hby d_method_2_32) (by decide) (by decide) ?_
        intro v36 T36 L36 X36 q36
        obtain ⟨b36, rfl, N36q, K36, Ex36⟩ := q36
        have N36 := Fr.app N0 N36q
        replace S_lc := own_sta_keep S_lc K36 all0
        replace S_high := own_sta_keep S_high K36 all0
        replace S_cache := own_sta_keep S_cache K36 all0
        replace S_cs := own_sta_keep S_cs K36 all0
        replace La := La.keep K36 all0
        replace Ca := Ca.keep K36 nin0
        have hn36 : n0 ≤ T36.heap.size := Nat.le_trans hn0 K36.1
        have KK36 := K0.trans K36 all0
        show Go _ _ _ _ _ T36 (mkF m 35 #[.val (.int p1), .val (.int p2), .val (.long p3), .second] [(.ref b36)])
        refine own_retA X36 hx (own_lvN X36 hlk (by decide) (by decide)) hret rfl rfl (hb hby d_method_2_35) ?_
        skip
        exact ⟨_, rfl, rfl, (by rw [own_nz, if_neg hc33]; try rfl), N36, KK36⟩
      · skip
        show Go _ _ _ _ _ s₁ (mkF m 21 #[.val (.int p1), .val (.int p2), .val (.long p3), .second] [])
        refine own_go (fun t k => XS.lloadN X0.here hx rfl (hb hby d_method_2_21) rfl k) ?_
        show Go _ _ _ _ _ s₁ (mkF m 22 #[.val (.int p1), .val (.int p2), .val (.long p3), .second] [(.long p3)])
        refine own_callS X0 hx hZ (y := (⟨"java/lang/Long", "valueOf", "(J)Ljava/lang/Long;"⟩ : MethodName)) hown (hw _ (List.mem_of_getElem? (i := 69) rfl)) (hw _ (List.mem_of_getElem? (i := 26) rfl)) (hw _ (List.mem_of_getElem? (i := 27) rfl)) (hw _ (List.mem_of_getElem? (i := 28) rfl)) (by decide) (rm_lbox l Z a0 hw [] p3 la h0 n0 hn0 S_lc La) e0 (by rw [hml]; rfl) (argsL := [(.long p3)]) (rest := []) rfl rfl (lenOf own_pd7 rfl) (W := 0) (Nat.le_of_eq rfl) (by decide) (by decide) (hb hby d_method_2_22) (by decide) (by decide) ?_
        intro v37 T37 L37 X37 q37
        obtain ⟨b37, rfl, N37q, K37, Ex37, Fx37⟩ := q37
        have N37 := Fr.app N0 N37q
        replace S_lc := own_sta_keep S_lc K37 all0
        replace S_high := own_sta_keep S_high K37 all0
        replace S_cache := own_sta_keep S_cache K37 all0
        replace S_cs := own_sta_keep S_cs K37 all0
        replace La := La.keep K37 all0
        replace Ca := Ca.keep K37 nin0
        have hn37 : n0 ≤ T37.heap.size := Nat.le_trans hn0 K37.1
        have KK37 := K0.trans K37 all0
        show Go _ _ _ _ _ T37 (mkF m 25 #[.val (.int p1), .val (.int p2), .val (.long p3), .second] [(.ref b37)])
        refine own_retA X37 hx (own_lvN X37 hlk (by decide) (by decide)) hret rfl rfl (hb hby d_method_2_25) ?_
        skip
        exact ⟨_, rfl, rfl, (by rw [own_nz, if_neg hc33]; try rfl), N37, KK37⟩
    · skip
      show Go _ _ _ _ _ s₁ (mkF m 11 #[.val (.int p1), .val (.int p2), .val (.long p3), .second] [])
      refine own_go (fun t k => XS.iloadN X0.here hx rfl (hb hby d_method_2_11) rfl k) ?_
      show Go _ _ _ _ _ s₁ (mkF m 12 #[.val (.int p1), .val (.int p2), .val (.long p3), .second] [(.int p2)])
      refine own_callS X0 hx hZ (y := (⟨"java/lang/Integer", "valueOf", "(I)Ljava/lang/Integer;"⟩ : MethodName)) hown (hw _ (List.mem_of_getElem? (i := 70) rfl)) (hw _ (List.mem_of_getElem? (i := 71) rfl)) (hw _ (List.mem_of_getElem? (i := 72) rfl)) (hw _ (List.mem_of_getElem? (i := 73) rfl)) (by decide) (rm13 l Z a0 hw [] p2 ca h0 n0 hn0 S_high S_cache Ca) e0 (by rw [hml]; rfl) (argsL := [(.int p2)]) (rest := []) rfl rfl (lenOf own_pd8 rfl) (W := 0) (Nat.le_of_eq rfl) (by decide) (by decide) (hb hby d_method_2_12) (by decide) (by decide) ?_
      intro v38 T38 L38 X38 q38
      obtain ⟨b38, rfl, N38q, K38, Ex38⟩ := q38
      have N38 := Fr.app N0 N38q
      replace S_lc := own_sta_keep S_lc K38 all0
      replace S_high := own_sta_keep S_high K38 all0
      replace S_cache := own_sta_keep S_cache K38 all0
      replace S_cs := own_sta_keep S_cs K38 all0
      replace La := La.keep K38 all0
      replace Ca := Ca.keep K38 nin0
      have hn38 : n0 ≤ T38.heap.size := Nat.le_trans hn0 K38.1
      have KK38 := K0.trans K38 all0
      show Go _ _ _ _ _ T38 (mkF m 15 #[.val (.int p1), .val (.int p2), .val (.long p3), .second] [(.ref b38)])
      refine own_retA X38 hx (own_lvN X38 hlk (by decide) (by decide)) hret rfl rfl (hb hby d_method_2_15) ?_
      skip
      exact ⟨_, rfl, rfl, (by rw [own_nz, if_neg hc33]; try rfl), N38, KK38⟩
  · skip
    show Go _ _ _ _ _ s₁ (mkF m 4 #[.val (.int p1), .val (.int p2), .val (.long p3), .second] [])
    refine own_go (fun t k => XS.aconstNull X0.here hx rfl (hb hby d_method_2_4) k) ?_
    show Go _ _ _ _ _ s₁ (mkF m 5 #[.val (.int p1), .val (.int p2), .val (.long p3), .second] [.null])
    refine own_retA X0 hx (own_lvN X0 hlk (by decide) (by decide)) hret rfl rfl (hb hby d_method_2_5) ?_
    rw [e0]
    exact ⟨_, rfl, rfl, (by rw [own_nz, if_pos hc33]; try rfl), N0, K0⟩
theorem d_prog_3_method_1_0 : Jvm.ClassFile.decode prog_3_method_1_code 0 = .ok (.aload_n 0, 1) := by decide +kernel
theorem d_prog_3_method_1_1 : Jvm.ClassFile.decode prog_3_method_1_code 1 = .ok (.invokespecial 1, 3) := by decide +kernel
theorem d_prog_3_method_1_4 : Jvm.ClassFile.decode prog_3_method_1_code 4 = .ok (.return_, 1) := by decide +kernel
theorem own_pn6 : plainName "com/example/tallyfold/tallyfold/aggregate/Count" = true := by first | (simp [plainName, overriddenIn]; done) | decide +kernel
theorem own_ef_rm2 (m : MethodId) (x0 : Addr) : entryFrame m #[(.ref x0)] 1 = mkF m 0 #[.val (.ref x0)] [] := by first | (simp [entryFrame, mkF, argsToLocals, Value.category]; done) | rfl
set_option maxRecDepth 65536 in
set_option maxHeartbeats 40000000 in
theorem rm2 (l : Launch) (Z : State) (a0 : Array Value) (hw : ∀ d ∈ tables_1, d.before a0 Z = true) (ws : List Jvm.Cond) (a1 : Addr) (h0 : Heap) (n0 : Nat) (hn0 : n0 ≤ h0.size)  :
    OwnMet l Z (⟨"com/example/tallyfold/tallyfold/aggregate/Count", "<init>", "()V"⟩ : MethodName) prog_3_method_1_code 1 none ws ({ frames := 1, cells := 0, slots := 0, locals := 12 } : Room) #[(.ref a1)] h0 (OwnP none h0 n0) := by
  refine own_body (plainFor_of_name own_pn6) ?_
  intro p e s m below meth c s₁ X0 hx hby hml hret hlk hown0 hnm hZ e0 hs0
  have hown : s.vm.findClass "com/example/tallyfold/tallyfold/aggregate/Count" = some m.cls := hown0
  have N0 := Fr.nil n0
  refine own_entry (own_ef_rm2 m a1) ?_
  show Go _ _ _ _ _ s₁ (mkF m 0 #[.val (.ref a1)] [])
  refine own_go (fun t k => XS.aloadN X0.here hx rfl (hb hby d_prog_3_method_1_0) rfl rfl k) ?_
  show Go _ _ _ _ _ s₁ (mkF m 1 #[.val (.ref a1)] [(.ref a1)])
  obtain ⟨T39, X39, e39, st39⟩ := initO X0 hx hZ hown (hw _ (List.mem_of_getElem? (i := 10) rfl)) (hw _ (List.mem_of_getElem? (i := 11) rfl)) (hw _ (List.mem_of_getElem? (i := 12) rfl)) e0 (g := (mkF m 1 #[.val (.ref a1)] [(.ref a1)])) rfl (by rw [hml]; rfl) rfl (hb hby d_prog_3_method_1_1) (by decide) (W := 0) (by show 2 * 0 + _ ≤ _; exact Nat.le_of_eq rfl) (by decide)
  refine own_go (fun t k => st39 t k) ?_
  show Go _ _ _ _ _ T39 (mkF m 4 #[.val (.ref a1)] [])
  refine own_retV X39 hx (own_lvN X39 hlk (by decide) (by decide)) hret (hb hby d_prog_3_method_1_4) ?_
  exact ⟨rfl, N0, e39⟩
def OwnQ_add (Z : State) (a1 : Addr) (pv : Value) (c : Int64) (h0 : Heap) (n0 : Nat) (v : Option Value) (h : Heap) (L : List Loc) : Prop := v = none ∧ Fr n0 L ∧ Keep h0 h [a1] ∧ Fld Z h a1 "com/example/tallyfold/tallyfold/aggregate/Count" "count" "J" (.long (c + own_nv pv))
theorem d_prog_3_method_2_0 : Jvm.ClassFile.decode prog_3_method_2_code 0 = .ok (.aload_n 1, 1) := by decide +kernel
theorem d_prog_3_method_2_1 : Jvm.ClassFile.decode prog_3_method_2_code 1 = .ok (.ifnull 13, 3) := by decide +kernel
theorem d_prog_3_method_2_14 : Jvm.ClassFile.decode prog_3_method_2_code 14 = .ok (.return_, 1) := by decide +kernel
theorem own_ef_rm_add_null (m : MethodId) (x0 : Addr) : entryFrame m #[(.ref x0), .null] 2 = mkF m 0 #[.val (.ref x0), .val .null] [] := by first | (simp [entryFrame, mkF, argsToLocals, Value.category]; done) | rfl
set_option maxRecDepth 65536 in
set_option maxHeartbeats 40000000 in
theorem rm_add_null (l : Launch) (Z : State) (a0 : Array Value) (hw : ∀ d ∈ tables_1, d.before a0 Z = true) (ws : List Jvm.Cond) (a1 : Addr) (cc : Int64) (h0 : Heap) (n0 : Nat) (hn0 : n0 ≤ h0.size) (E_a1 : Exa Z h0 a1 "com/example/tallyfold/tallyfold/aggregate/Count") (F_c : Fld Z h0 a1 "com/example/tallyfold/tallyfold/aggregate/Count" "count" "J" (.long cc)) (g_a1 : n0 ≤ a1) :
    OwnMet l Z (⟨"com/example/tallyfold/tallyfold/aggregate/Count", "add", "(Ljava/lang/Object;)V"⟩ : MethodName) prog_3_method_2_code 2 none ws ({ frames := 0, cells := 0, slots := 0, locals := 0 } : Room) #[(.ref a1), .null] h0 (OwnQ_add Z a1 .null cc h0 n0) := by
  refine own_body (plainFor_of_name own_pn6) ?_
  intro p e s m below meth c s₁ X0 hx hby hml hret hlk hown0 hnm hZ e0 hs0
  have hown : s.vm.findClass "com/example/tallyfold/tallyfold/aggregate/Count" = some m.cls := hown0
  have N0 := Fr.nil n0
  refine own_entry (own_ef_rm_add_null m a1) ?_
  have K0 := Keep.refl h0 [a1]
  show Go _ _ _ _ _ s₁ (mkF m 0 #[.val (.ref a1), .val .null] [])
  refine own_go (fun t k => XS.aloadN X0.here hx rfl (hb hby d_prog_3_method_2_0) rfl rfl k) ?_
  show Go _ _ _ _ _ s₁ (mkF m 1 #[.val (.ref a1), .val .null] [.null])
  refine own_go (fun t k => XS.ifnullYes X0.here hx rfl (pc0 := 1) (pc' := 14) rfl (hb hby d_prog_3_method_2_1) rfl (by decide) (by decide) k) ?_
  show Go _ _ _ _ _ s₁ (mkF m 14 #[.val (.ref a1), .val .null] [])
  refine own_retV X0 hx (own_lvN X0 hlk (by decide) (by decide)) hret (hb hby d_prog_3_method_2_14) ?_
  rw [e0]
  exact ⟨rfl, N0, K0, (by rw [show cc + own_nv .null = cc from Int64.add_zero cc]; exact F_c)⟩
theorem d_prog_3_method_2_4 : Jvm.ClassFile.decode prog_3_method_2_code 4 = .ok (.aload_n 0, 1) := by decide +kernel
theorem d_prog_3_method_2_5 : Jvm.ClassFile.decode prog_3_method_2_code 5 = .ok (.dup, 1) := by decide +kernel
theorem d_prog_3_method_2_6 : Jvm.ClassFile.decode prog_3_method_2_code 6 = .ok (.getfield 7, 3) := by decide +kernel
theorem d_prog_3_method_2_9 : Jvm.ClassFile.decode prog_3_method_2_code 9 = .ok (.lconst 1, 1) := by decide +kernel
theorem d_prog_3_method_2_10 : Jvm.ClassFile.decode prog_3_method_2_code 10 = .ok (.ladd, 1) := by decide +kernel
theorem d_prog_3_method_2_11 : Jvm.ClassFile.decode prog_3_method_2_code 11 = .ok (.putfield 7, 3) := by decide +kernel
theorem own_ef_rm_add_ref (m : MethodId) (x0 : Addr) (x1 : Addr) : entryFrame m #[(.ref x0), (.ref x1)] 2 = mkF m 0 #[.val (.ref x0), .val (.ref x1)] [] := by first | (simp [entryFrame, mkF, argsToLocals, Value.category]; done) | rfl
set_option maxRecDepth 65536 in
set_option maxHeartbeats 40000000 in
theorem rm_add_ref (l : Launch) (Z : State) (a0 : Array Value) (hw : ∀ d ∈ tables_1, d.before a0 Z = true) (ws : List Jvm.Cond) (a1 : Addr) (b : Addr) (cc : Int64) (h0 : Heap) (n0 : Nat) (hn0 : n0 ≤ h0.size) (E_a1 : Exa Z h0 a1 "com/example/tallyfold/tallyfold/aggregate/Count") (F_c : Fld Z h0 a1 "com/example/tallyfold/tallyfold/aggregate/Count" "count" "J" (.long cc)) (g_a1 : n0 ≤ a1) :
    OwnMet l Z (⟨"com/example/tallyfold/tallyfold/aggregate/Count", "add", "(Ljava/lang/Object;)V"⟩ : MethodName) prog_3_method_2_code 2 none ws ({ frames := 0, cells := 0, slots := 0, locals := 0 } : Room) #[(.ref a1), (.ref b)] h0 (OwnQ_add Z a1 (.ref b) cc h0 n0) := by
  refine own_body (plainFor_of_name own_pn6) ?_
  intro p e s m below meth c s₁ X0 hx hby hml hret hlk hown0 hnm hZ e0 hs0
  have hown : s.vm.findClass "com/example/tallyfold/tallyfold/aggregate/Count" = some m.cls := hown0
  have N0 := Fr.nil n0
  refine own_entry (own_ef_rm_add_ref m a1 b) ?_
  have K0 := Keep.refl h0 [a1]
  show Go _ _ _ _ _ s₁ (mkF m 0 #[.val (.ref a1), .val (.ref b)] [])
  refine own_go (fun t k => XS.aloadN X0.here hx rfl (hb hby d_prog_3_method_2_0) rfl rfl k) ?_
  show Go _ _ _ _ _ s₁ (mkF m 1 #[.val (.ref a1), .val (.ref b)] [(.ref b)])
  refine own_go (fun t k => XS.ifnullNo X0.here hx rfl (hb hby d_prog_3_method_2_1) rfl k) ?_
  show Go _ _ _ _ _ s₁ (mkF m 4 #[.val (.ref a1), .val (.ref b)] [])
  refine own_go (fun t k => XS.aloadN X0.here hx rfl (hb hby d_prog_3_method_2_4) rfl rfl k) ?_
  show Go _ _ _ _ _ s₁ (mkF m 5 #[.val (.ref a1), .val (.ref b)] [(.ref a1)])
  refine own_go (fun t k => XS.dup X0.here hx rfl (hb hby d_prog_3_method_2_5) rfl rfl k) ?_
  show Go _ _ _ _ _ s₁ (mkF m 6 #[.val (.ref a1), .val (.ref b)] [(.ref a1), (.ref a1)])
  obtain ⟨T40, X40, e40, st40⟩ := getF X0 hx hZ hown (host := "") (Or.inl (hw _ (List.mem_of_getElem? (i := 23) rfl))) Via.refl e0 F_c (g := (mkF m 6 #[.val (.ref a1), .val (.ref b)] [(.ref a1), (.ref a1)])) rfl rfl (hb hby d_prog_3_method_2_6)
  refine own_go (fun t k => st40 t k) ?_
  show Go _ _ _ _ _ T40 (mkF m 9 #[.val (.ref a1), .val (.ref b)] [(.long cc), (.ref a1)])
  refine own_go (fun t k => XS.lconst X40.here hx rfl (hb hby d_prog_3_method_2_9) k) ?_
  show Go _ _ _ _ _ T40 (mkF m 10 #[.val (.ref a1), .val (.ref b)] [(.long (1 : Int64)), (.long cc), (.ref a1)])
  refine own_go (fun t k => XS.ladd X40.here hx rfl (hb hby d_prog_3_method_2_10) rfl k) ?_
  show Go _ _ _ _ _ T40 (mkF m 11 #[.val (.ref a1), .val (.ref b)] [(.long (cc + (1 : Int64))), (.ref a1)])
  obtain ⟨T41, h41, X41, e41, W41, st41⟩ := putF X40 hx hZ hown (host := "") (Or.inl (hw _ (List.mem_of_getElem? (i := 23) rfl))) Via.refl e40 F_c E_a1 (Or.inl (hw _ (List.mem_of_getElem? (i := 24) rfl))) (hw _ (List.mem_of_getElem? (i := 5) rfl)) (ty := .long) (by decide) rfl rfl (g := (mkF m 11 #[.val (.ref a1), .val (.ref b)] [(.long (cc + (1 : Int64))), (.ref a1)])) rfl rfl (hb hby d_prog_3_method_2_11)
  replace E_a1 := E_a1.wr W41
  replace F_c := F_c.same W41
  have N41 := Fr.snoc X41 N0 g_a1
  have hn41 : n0 ≤ h41.size := Nat.le_trans hn0 (Keep.of_wr W41).1
  have K41 := K0.wr W41 (Or.inl (List.mem_of_getElem? (i := 0) rfl))
  refine own_go (fun t k => st41 t k) ?_
  show Go _ _ _ _ _ T41 (mkF m 14 #[.val (.ref a1), .val (.ref b)] [])
  refine own_retV X41 hx (own_lvN X41 hlk (by decide) (by decide)) hret (hb hby d_prog_3_method_2_14) ?_
  rw [e41]
  exact ⟨rfl, N41, K41, F_c⟩
theorem rm_add (l : Launch) (Z : State) (a0 : Array Value) (hw : ∀ d ∈ tables_1, d.before a0 Z = true) (ws : List Jvm.Cond) (a1 : Addr) (pv : Value) (cc : Int64) (h0 : Heap) (n0 : Nat) (hn0 : n0 ≤ h0.size) (E_a1 : Exa Z h0 a1 "com/example/tallyfold/tallyfold/aggregate/Count") (F_c : Fld Z h0 a1 "com/example/tallyfold/tallyfold/aggregate/Count" "count" "J" (.long cc)) (g_a1 : n0 ≤ a1) (hpv : pv.isRef = true) :
    OwnMet l Z (⟨"com/example/tallyfold/tallyfold/aggregate/Count", "add", "(Ljava/lang/Object;)V"⟩ : MethodName) prog_3_method_2_code 2 none ws ({ frames := 0, cells := 0, slots := 0, locals := 0 } : Room) #[(.ref a1), pv] h0 (OwnQ_add Z a1 pv cc h0 n0) := by
  rcases ref_cases hpv with rfl | ⟨b, rfl⟩
  · exact rm_add_null l Z a0 hw ws a1 cc h0 n0 hn0 E_a1 F_c g_a1
  · exact rm_add_ref l Z a0 hw ws a1 b cc h0 n0 hn0 E_a1 F_c g_a1
theorem d_prog_3_method_8_0 : Jvm.ClassFile.decode prog_3_method_8_code 0 = .ok (.aload_n 0, 1) := by decide +kernel
theorem d_prog_3_method_8_1 : Jvm.ClassFile.decode prog_3_method_8_code 1 = .ok (.getfield 7, 3) := by decide +kernel
theorem d_prog_3_method_8_4 : Jvm.ClassFile.decode prog_3_method_8_code 4 = .ok (.invokestatic 25, 3) := by decide +kernel
theorem d_prog_3_method_8_7 : Jvm.ClassFile.decode prog_3_method_8_code 7 = .ok (.areturn, 1) := by decide +kernel
theorem own_ef_rm_res (m : MethodId) (x0 : Addr) : entryFrame m #[(.ref x0)] 1 = mkF m 0 #[.val (.ref x0)] [] := by first | (simp [entryFrame, mkF, argsToLocals, Value.category]; done) | rfl
set_option maxRecDepth 65536 in
set_option maxHeartbeats 40000000 in
theorem rm_res (l : Launch) (Z : State) (a0 : Array Value) (hw : ∀ d ∈ tables_1, d.before a0 Z = true) (ws : List Jvm.Cond) (a1 : Addr) (cc : Int64) (la : Addr) (h0 : Heap) (n0 : Nat) (hn0 : n0 ≤ h0.size) (E_a1 : Exa Z h0 a1 "com/example/tallyfold/tallyfold/aggregate/Count") (F_c : Fld Z h0 a1 "com/example/tallyfold/tallyfold/aggregate/Count" "count" "J" (.long cc)) (S_lc : Sta Z h0 "java/lang/Long$LongCache" "cache" "[Ljava/lang/Long;" (.ref la)) (La : OwnLCache Z n0 h0 la) :
    OwnMet l Z (⟨"com/example/tallyfold/tallyfold/aggregate/Count", "result", "()Ljava/lang/Object;"⟩ : MethodName) prog_3_method_8_code 1 (some (.object "java/lang/Object")) ws ({ frames := 4, cells := 1, slots := 1, locals := 53 } : Room) #[(.ref a1)] h0 (OwnQ_lbox Z cc h0 n0) := by
  refine own_body (plainFor_of_name own_pn6) ?_
  intro p e s m below meth c s₁ X0 hx hby hml hret hlk hown0 hnm hZ e0 hs0
  have hown : s.vm.findClass "com/example/tallyfold/tallyfold/aggregate/Count" = some m.cls := hown0
  have N0 := Fr.nil n0
  refine own_entry (own_ef_rm_res m a1) ?_
  have K0 := Keep.refl h0 []
  show Go _ _ _ _ _ s₁ (mkF m 0 #[.val (.ref a1)] [])
  refine own_go (fun t k => XS.aloadN X0.here hx rfl (hb hby d_prog_3_method_8_0) rfl rfl k) ?_
  show Go _ _ _ _ _ s₁ (mkF m 1 #[.val (.ref a1)] [(.ref a1)])
  obtain ⟨T42, X42, e42, st42⟩ := getF X0 hx hZ hown (host := "") (Or.inl (hw _ (List.mem_of_getElem? (i := 23) rfl))) Via.refl e0 F_c (g := (mkF m 1 #[.val (.ref a1)] [(.ref a1)])) rfl rfl (hb hby d_prog_3_method_8_1)
  refine own_go (fun t k => st42 t k) ?_
  show Go _ _ _ _ _ T42 (mkF m 4 #[.val (.ref a1)] [(.long cc)])
  refine own_callS X42 hx hZ (y := (⟨"java/lang/Long", "valueOf", "(J)Ljava/lang/Long;"⟩ : MethodName)) hown (hw _ (List.mem_of_getElem? (i := 25) rfl)) (hw _ (List.mem_of_getElem? (i := 26) rfl)) (hw _ (List.mem_of_getElem? (i := 27) rfl)) (hw _ (List.mem_of_getElem? (i := 28) rfl)) (by decide) (rm_lbox l Z a0 hw [] cc la h0 n0 hn0 S_lc La) e42 (by rw [hml]; rfl) (argsL := [(.long cc)]) (rest := []) rfl rfl (lenOf own_pd7 rfl) (W := 0) (Nat.le_of_eq rfl) (by decide) (by decide) (hb hby d_prog_3_method_8_4) (by decide) (by decide) ?_
  intro v43 T43 L43 X43 q43
  obtain ⟨b43, rfl, N43q, K43, Ex43, Fx43⟩ := q43
  have N43 := Fr.app N0 N43q
  replace S_lc := own_sta_keep S_lc K43 all0
  replace F_c := F_c.keep K43 nin0
  replace La := La.keep K43 all0
  replace E_a1 := E_a1.keep K43
  have hn43 : n0 ≤ T43.heap.size := Nat.le_trans hn0 K43.1
  have KK43 := K0.trans K43 all0
  have ne_a1_b43 : ¬ a1 = b43 := ne_exa E_a1 Ex43 (by decide)
  show Go _ _ _ _ _ T43 (mkF m 7 #[.val (.ref a1)] [(.ref b43)])
  refine own_retA X43 hx (own_lvN X43 hlk (by decide) (by decide)) hret rfl rfl (hb hby d_prog_3_method_8_7) ?_
  skip
  exact ⟨_, rfl, N43, KK43, Ex43, Fx43⟩
theorem d_jdk_35_method_31_0 : Jvm.ClassFile.decode jdk_35_method_31_code 0 = .ok (.aload_n 0, 1) := by decide +kernel
theorem d_jdk_35_method_31_1 : Jvm.ClassFile.decode jdk_35_method_31_code 1 = .ok (.getfield 273, 3) := by decide +kernel
theorem d_jdk_35_method_31_4 : Jvm.ClassFile.decode jdk_35_method_31_code 4 = .ok (.lreturn, 1) := by decide +kernel
def own_f_rm_lv (x1 : Int64) : Int64 := x1
theorem own_ef_rm_lv (m : MethodId) (x0 : Addr) : entryFrame m #[(.ref x0)] 1 = mkF m 0 #[.val (.ref x0)] [] := by first | (simp [entryFrame, mkF, argsToLocals, Value.category]; done) | rfl
set_option maxRecDepth 65536 in
set_option maxHeartbeats 40000000 in
theorem rm_lv (l : Launch) (Z : State) (a0 : Array Value) (hw : ∀ d ∈ tables_1, d.before a0 Z = true) (ws : List Jvm.Cond) (a1 : Addr) (x1 : Int64) (r : Int64) (h0 : Heap) (n0 : Nat) (hn0 : n0 ≤ h0.size) (F : Fld Z h0 a1 "java/lang/Long" "value" "J" (.long x1)) (hr : own_f_rm_lv x1 = r) :
    OwnMet l Z (⟨"java/lang/Long", "longValue", "()J"⟩ : MethodName) jdk_35_method_31_code 1 (some .long) ws ({ frames := 0, cells := 0, slots := 0, locals := 0 } : Room) #[(.ref a1)] h0 (OwnP (some (.long r)) h0 n0) := by
  refine own_body (plainFor_of_name own_pn2) ?_
  intro p e s m below meth c s₁ X0 hx hby hml hret hlk hown0 hnm hZ e0 hs0
  have hown : s.vm.findClass "java/lang/Long" = some m.cls := hown0
  have N0 := Fr.nil n0
  refine own_entry (own_ef_rm_lv m a1) ?_
  show Go _ _ _ _ _ s₁ (mkF m 0 #[.val (.ref a1)] [])
  refine own_go (fun t k => XS.aloadN X0.here hx rfl (hb hby d_jdk_35_method_31_0) rfl rfl k) ?_
  show Go _ _ _ _ _ s₁ (mkF m 1 #[.val (.ref a1)] [(.ref a1)])
  obtain ⟨T45, X45, e45, st45⟩ := getF X0 hx hZ hown (host := "") (Or.inl (hw _ (List.mem_of_getElem? (i := 43) rfl))) Via.refl e0 F (g := (mkF m 1 #[.val (.ref a1)] [(.ref a1)])) rfl rfl (hb hby d_jdk_35_method_31_1)
  refine own_go (fun t k => st45 t k) ?_
  show Go _ _ _ _ _ T45 (mkF m 4 #[.val (.ref a1)] [(.long x1)])
  refine own_retL X45 hx (own_lvN X45 hlk (by decide) (by decide)) hret (hb hby d_jdk_35_method_31_4) ?_
  exact ⟨(by rw [← hr, own_f_rm_lv]; try rfl), N0, e45⟩
theorem d_method_3_0 : Jvm.ClassFile.decode method_3_code 0 = .ok (.aload_n 0, 1) := by decide +kernel
theorem d_method_3_1 : Jvm.ClassFile.decode method_3_code 1 = .ok (.instanceof 14, 3) := by decide +kernel
theorem d_method_3_4 : Jvm.ClassFile.decode method_3_code 4 = .ok (.ifCond .ne 5, 3) := by decide +kernel
theorem d_method_3_9 : Jvm.ClassFile.decode method_3_code 9 = .ok (.aload_n 0, 1) := by decide +kernel
theorem d_method_3_10 : Jvm.ClassFile.decode method_3_code 10 = .ok (.checkcast 14, 3) := by decide +kernel
theorem d_method_3_13 : Jvm.ClassFile.decode method_3_code 13 = .ok (.invokevirtual 23, 3) := by decide +kernel
theorem own_pd9 : parseMethodDescriptor "()J" = some ⟨[], some .long⟩ := by decide +kernel
theorem d_method_3_16 : Jvm.ClassFile.decode method_3_code 16 = .ok (.lload_n 1, 1) := by decide +kernel
theorem d_method_3_17 : Jvm.ClassFile.decode method_3_code 17 = .ok (.lcmp, 1) := by decide +kernel
theorem d_method_3_18 : Jvm.ClassFile.decode method_3_code 18 = .ok (.ifCond .ne 7, 3) := by decide +kernel
theorem d_method_3_25 : Jvm.ClassFile.decode method_3_code 25 = .ok (.iconst 0, 1) := by decide +kernel
theorem d_method_3_26 : Jvm.ClassFile.decode method_3_code 26 = .ok (.ireturn, 1) := by decide +kernel
theorem d_method_3_21 : Jvm.ClassFile.decode method_3_code 21 = .ok (.iconst 1, 1) := by decide +kernel
theorem d_method_3_22 : Jvm.ClassFile.decode method_3_code 22 = .ok (.goto 4, 3) := by decide +kernel
def own_f_rm_ic (p2 : Int64) (x1 : Int64) : Int32 := (if (lcmpW x1 p2) = (0 : Int32) then (1 : Int32) else (0 : Int32))
theorem own_ef_rm_ic (m : MethodId) (x0 : Addr) (x1 : Int64) : entryFrame m #[(.ref x0), (.long x1)] 3 = mkF m 0 #[.val (.ref x0), .val (.long x1), .second] [] := by first | (simp [entryFrame, mkF, argsToLocals, Value.category]; done) | rfl
set_option maxRecDepth 65536 in
set_option maxHeartbeats 40000000 in
theorem rm_ic (l : Launch) (Z : State) (a0 : Array Value) (hw : ∀ d ∈ tables_1, d.before a0 Z = true) (ws : List Jvm.Cond) (a1 : Addr) (p2 : Int64) (x1 : Int64) (r : Int32) (h0 : Heap) (n0 : Nat) (hn0 : n0 ≤ h0.size) (E_a1 : Exa Z h0 a1 "java/lang/Long") (F : Fld Z h0 a1 "java/lang/Long" "value" "J" (.long x1)) (hr : own_f_rm_ic p2 x1 = r) :
    OwnMet l Z (⟨"com/example/tallyfold/tallyfold/aggregate/CountAddPinLaw", "isCount", "(Ljava/lang/Object;J)Z"⟩ : MethodName) method_3_code 3 (some .boolean) ws ({ frames := 1, cells := 0, slots := 0, locals := 12 } : Room) #[(.ref a1), (.long p2)] h0 (OwnP (some (.int r)) h0 n0) := by
  refine own_body (plainFor_of_name own_pn5) ?_
  intro p e s m below meth c s₁ X0 hx hby hml hret hlk hown0 hnm hZ e0 hs0
  have hown : s.vm.findClass "com/example/tallyfold/tallyfold/aggregate/CountAddPinLaw" = some m.cls := hown0
  have N0 := Fr.nil n0
  refine own_entry (own_ef_rm_ic m a1 p2) ?_
  show Go _ _ _ _ _ s₁ (mkF m 0 #[.val (.ref a1), .val (.long p2), .second] [])
  refine own_go (fun t k => XS.aloadN X0.here hx rfl (hb hby d_method_3_0) rfl rfl k) ?_
  show Go _ _ _ _ _ s₁ (mkF m 1 #[.val (.ref a1), .val (.long p2), .second] [(.ref a1)])
  obtain ⟨T50, X50, e50, st50⟩ := instY X0 hx hZ hown (hw _ (List.mem_of_getElem? (i := 36) rfl)) e0 (Ins.self E_a1) (g := (mkF m 1 #[.val (.ref a1), .val (.long p2), .second] [(.ref a1)])) rfl rfl (hb hby d_method_3_1)
  refine own_go (fun t k => st50 t k) ?_
  show Go _ _ _ _ _ T50 (mkF m 4 #[.val (.ref a1), .val (.long p2), .second] [(.int (1 : Int32))])
  refine own_go (fun t k => XS.ifYes X50.here hx rfl (pc0 := 4) (pc' := 9) rfl (hb hby d_method_3_4) rfl (by decide) (by decide) (by decide) k) ?_
  show Go _ _ _ _ _ T50 (mkF m 9 #[.val (.ref a1), .val (.long p2), .second] [])
  refine own_go (fun t k => XS.aloadN X50.here hx rfl (hb hby d_method_3_9) rfl rfl k) ?_
  show Go _ _ _ _ _ T50 (mkF m 10 #[.val (.ref a1), .val (.long p2), .second] [(.ref a1)])
  obtain ⟨T51, X51, e51, st51⟩ := castY X50 hx hZ hown (hw _ (List.mem_of_getElem? (i := 36) rfl)) e50 (Ins.self E_a1) (g := (mkF m 10 #[.val (.ref a1), .val (.long p2), .second] [(.ref a1)])) rfl rfl (hb hby d_method_3_10)
  refine own_go (fun t k => st51 t k) ?_
  show Go _ _ _ _ _ T51 (mkF m 13 #[.val (.ref a1), .val (.long p2), .second] [(.ref a1)])
  refine own_callV X51 hx hZ (y := (⟨"java/lang/Long", "longValue", "()J"⟩ : MethodName)) hown (hw _ (List.mem_of_getElem? (i := 38) rfl)) (hw _ (List.mem_of_getElem? (i := 39) rfl)) (hw _ (List.mem_of_getElem? (i := 41) rfl)) (hw _ (List.mem_of_getElem? (i := 40) rfl)) (hw _ (List.mem_of_getElem? (i := 42) rfl)) (hw _ (List.mem_of_getElem? (i := 27) rfl)) (by decide) (rm_lv l Z a0 hw [] a1 x1 x1 h0 n0 hn0 F (by rw [own_f_rm_lv]; try first | rfl | decide)) e51 E_a1 (by rw [hml]; rfl) (argsL := []) (rest := []) rfl rfl (lenOf own_pd9 rfl) (W := 0) (Nat.le_of_eq rfl) (by decide) (by decide) (hb hby d_method_3_13) (by decide) (by decide) ?_
  intro v52 T52 L52 X52 q52
  obtain ⟨rfl, N52q, e52⟩ := q52
  have N52 := Fr.app N0 N52q
  show Go _ _ _ _ _ T52 (mkF m 16 #[.val (.ref a1), .val (.long p2), .second] [(.long x1)])
  refine own_go (fun t k => XS.lloadN X52.here hx rfl (hb hby d_method_3_16) rfl k) ?_
  show Go _ _ _ _ _ T52 (mkF m 17 #[.val (.ref a1), .val (.long p2), .second] [(.long p2), (.long x1)])
  refine own_go (fun t k => XS.lcmp X52.here hx rfl (hb hby d_method_3_17) rfl k) ?_
  show Go _ _ _ _ _ T52 (mkF m 18 #[.val (.ref a1), .val (.long p2), .second] [(.int (lcmpW x1 p2))])
  refine own_ifM ((lcmpW x1 p2) = (0 : Int32)) X52 hx (hb hby d_method_3_18) (own_ne _ _) (by decide) (by decide) (pc' := 25) (fun hc53 => ?_) (fun hc53 => ?_)
  · skip
    show Go _ _ _ _ _ T52 (mkF m 25 #[.val (.ref a1), .val (.long p2), .second] [])
    refine own_go (fun t k => XS.iconst X52.here hx rfl (hb hby d_method_3_25) k) ?_
    show Go _ _ _ _ _ T52 (mkF m 26 #[.val (.ref a1), .val (.long p2), .second] [(.int (0 : Int32))])
    refine own_retN X52 hx (own_lvN X52 hlk (by decide) (by decide)) (t := .boolean) hret (by simp) (hb hby d_method_3_26) ?_
    exact ⟨(by rw [← hr, own_f_rm_ic, if_neg hc53]; try rfl), N52, e52⟩
  · skip
    show Go _ _ _ _ _ T52 (mkF m 21 #[.val (.ref a1), .val (.long p2), .second] [])
    refine own_go (fun t k => XS.iconst X52.here hx rfl (hb hby d_method_3_21) k) ?_
    show Go _ _ _ _ _ T52 (mkF m 22 #[.val (.ref a1), .val (.long p2), .second] [(.int (1 : Int32))])
    refine own_go (fun t k => XS.goto X52.here hx rfl (pc0 := 22) (pc' := 26) rfl (hb hby d_method_3_22) (by decide) (by decide) k) ?_
    show Go _ _ _ _ _ T52 (mkF m 26 #[.val (.ref a1), .val (.long p2), .second] [(.int (1 : Int32))])
    refine own_retN X52 hx (own_lvN X52 hlk (by decide) (by decide)) (t := .boolean) hret (by simp) (hb hby d_method_3_26) ?_
    exact ⟨(by rw [← hr, own_f_rm_ic, if_pos hc53]; try rfl), N52, e52⟩
theorem own_pd10 : parseMethodDescriptor "(IIJ)Ljava/lang/Object;" = some ⟨[.int, .int, .long], some (.object "java/lang/Object")⟩ := by decide +kernel
theorem own_pd11 : parseMethodDescriptor "(Ljava/lang/Object;)V" = some ⟨[(.object "java/lang/Object")], none⟩ := by decide +kernel
theorem own_pd12 : parseMethodDescriptor "()Ljava/lang/Object;" = some ⟨[], some (.object "java/lang/Object")⟩ := by decide +kernel
theorem own_pd13 : parseMethodDescriptor "(Ljava/lang/Object;J)Z" = some ⟨[(.object "java/lang/Object"), .long], some .boolean⟩ := by decide +kernel
theorem own_ef_rm0 (m : MethodId) (x0 : Int32) (x1 : Int32) (x2 : Int64) (x3 : Int32) : entryFrame m #[(.int x0), (.int x1), (.long x2), (.int x3)] maxLocals = mkF m 0 #[.val (.int x0), .val (.int x1), .val (.long x2), .second, .val (.int x3), .unset, .unset, .unset, .unset, .unset, .unset, .unset, .unset, .unset, .unset, .unset, .unset, .unset, .unset, .unset] [] := by first | (simp [entryFrame, mkF, argsToLocals, Value.category, maxLocals]; done) | rfl
set_option maxRecDepth 65536 in
set_option maxHeartbeats 40000000 in
theorem rm0 (l : Launch) (Z : State) (a0 : Array Value) (hw : ∀ d ∈ tables_1, d.before a0 Z = true) (ws : List Jvm.Cond) (p1 : Int32) (p2 : Int32) (p3 : Int64) (p4 : Int32) (ca : Addr) (la : Addr) (cs : Int32) (h0 : Heap) (n0 : Nat) (hn0 : n0 ≤ h0.size) (S_high : Sta Z h0 "java/lang/Integer$IntegerCache" "high" "I" (.int (127 : Int32))) (S_cache : Sta Z h0 "java/lang/Integer$IntegerCache" "cache" "[Ljava/lang/Integer;" (.ref ca)) (Ca : OwnCache Z h0 ca) (S_lc : Sta Z h0 "java/lang/Long$LongCache" "cache" "[Ljava/lang/Long;" (.ref la)) (La : OwnLCache Z n0 h0 la) (S_cs : Sta Z h0 "java/lang/String" "COMPACT_STRINGS" "Z" (.int cs)) (hcs : ¬ cs = (0 : Int32)) :
    OwnMet l Z x code maxLocals ret ws room_1 #[(.int p1), (.int p2), (.long p3), (.int p4)] h0 (OwnR (some (.int 1)) n0) := by
  refine own_body (plainFor_of_name own_pn5) ?_
  intro p e s m below meth c s₁ X0 hx hby hml hret hlk hown0 hnm hZ e0 hs0
  have hown : s.vm.findClass "com/example/tallyfold/tallyfold/aggregate/CountAddPinLaw" = some m.cls := hown0
  have N0 := Fr.nil n0
  refine own_entry (own_ef_rm0 m p1 p2 p3 p4) ?_
  show Go _ _ _ _ _ s₁ (mkF m 0 #[.val (.int p1), .val (.int p2), .val (.long p3), .second, .val (.int p4), .unset, .unset, .unset, .unset, .unset, .unset, .unset, .unset, .unset, .unset, .unset, .unset, .unset, .unset, .unset] [])
  refine own_go (fun t k => XS.iloadN X0.here hx rfl (hb hby at_0) rfl k) ?_
  show Go _ _ _ _ _ s₁ (mkF m 1 #[.val (.int p1), .val (.int p2), .val (.long p3), .second, .val (.int p4), .unset, .unset, .unset, .unset, .unset, .unset, .unset, .unset, .unset, .unset, .unset, .unset, .unset, .unset, .unset] [(.int p1)])
  refine own_go (fun t k => XS.iconst X0.here hx rfl (hb hby at_1) k) ?_
  show Go _ _ _ _ _ s₁ (mkF m 2 #[.val (.int p1), .val (.int p2), .val (.long p3), .second, .val (.int p4), .unset, .unset, .unset, .unset, .unset, .unset, .unset, .unset, .unset, .unset, .unset, .unset, .unset, .unset, .unset] [(.int (3 : Int32)), (.int p1)])
  refine own_go (fun t k => XS.iand X0.here hx rfl (hb hby at_2) rfl k) ?_
  show Go _ _ _ _ _ s₁ (mkF m 3 #[.val (.int p1), .val (.int p2), .val (.long p3), .second, .val (.int p4), .unset, .unset, .unset, .unset, .unset, .unset, .unset, .unset, .unset, .unset, .unset, .unset, .unset, .unset, .unset] [(.int (p1 &&& (3 : Int32)))])
  refine own_go (fun t k => XS.istore X0.here hx rfl (hb hby at_3) rfl (l' := #[.val (.int p1), .val (.int p2), .val (.long p3), .second, .val (.int p4), .val (.int (p1 &&& (3 : Int32))), .unset, .unset, .unset, .unset, .unset, .unset, .unset, .unset, .unset, .unset, .unset, .unset, .unset, .unset]) rfl k) ?_
  show Go _ _ _ _ _ s₁ (mkF m 5 #[.val (.int p1), .val (.int p2), .val (.long p3), .second, .val (.int p4), .val (.int (p1 &&& (3 : Int32))), .unset, .unset, .unset, .unset, .unset, .unset, .unset, .unset, .unset, .unset, .unset, .unset, .unset, .unset] [])
  generalize (p1 &&& (3 : Int32)) = k0
  show Go _ _ _ _ _ s₁ (mkF m 5 #[.val (.int p1), .val (.int p2), .val (.long p3), .second, .val (.int p4), .val (.int k0), .unset, .unset, .unset, .unset, .unset, .unset, .unset, .unset, .unset, .unset, .unset, .unset, .unset, .unset] [])
  refine own_go (fun t k => XS.iloadN X0.here hx rfl (hb hby at_5) rfl k) ?_
  show Go _ _ _ _ _ s₁ (mkF m 6 #[.val (.int p1), .val (.int p2), .val (.long p3), .second, .val (.int p4), .val (.int k0), .unset, .unset, .unset, .unset, .unset, .unset, .unset, .unset, .unset, .unset, .unset, .unset, .unset, .unset] [(.int p1)])
  refine own_go (fun t k => XS.iconst X0.here hx rfl (hb hby at_6) k) ?_
  show Go _ _ _ _ _ s₁ (mkF m 7 #[.val (.int p1), .val (.int p2), .val (.long p3), .second, .val (.int p4), .val (.int k0), .unset, .unset, .unset, .unset, .unset, .unset, .unset, .unset, .unset, .unset, .unset, .unset, .unset, .unset] [(.int (2 : Int32)), (.int p1)])
  refine own_go (fun t k => XS.ishr X0.here hx rfl (hb hby at_7) rfl k) ?_
  show Go _ _ _ _ _ s₁ (mkF m 8 #[.val (.int p1), .val (.int p2), .val (.long p3), .second, .val (.int p4), .val (.int k0), .unset, .unset, .unset, .unset, .unset, .unset, .unset, .unset, .unset, .unset, .unset, .unset, .unset, .unset] [(.int (p1 >>> ((2 : Int32) &&& 31)))])
  refine own_go (fun t k => XS.iconst X0.here hx rfl (hb hby at_8) k) ?_
  show Go _ _ _ _ _ s₁ (mkF m 9 #[.val (.int p1), .val (.int p2), .val (.long p3), .second, .val (.int p4), .val (.int k0), .unset, .unset, .unset, .unset, .unset, .unset, .unset, .unset, .unset, .unset, .unset, .unset, .unset, .unset] [(.int (3 : Int32)), (.int (p1 >>> ((2 : Int32) &&& 31)))])
  refine own_go (fun t k => XS.iand X0.here hx rfl (hb hby at_9) rfl k) ?_
  show Go _ _ _ _ _ s₁ (mkF m 10 #[.val (.int p1), .val (.int p2), .val (.long p3), .second, .val (.int p4), .val (.int k0), .unset, .unset, .unset, .unset, .unset, .unset, .unset, .unset, .unset, .unset, .unset, .unset, .unset, .unset] [(.int ((p1 >>> ((2 : Int32) &&& 31)) &&& (3 : Int32)))])
  refine own_go (fun t k => XS.istore X0.here hx rfl (hb hby at_10) rfl (l' := #[.val (.int p1), .val (.int p2), .val (.long p3), .second, .val (.int p4), .val (.int k0), .val (.int ((p1 >>> ((2 : Int32) &&& 31)) &&& (3 : Int32))), .unset, .unset, .unset, .unset, .unset, .unset, .unset, .unset, .unset, .unset, .unset, .unset, .unset]) rfl k) ?_
  show Go _ _ _ _ _ s₁ (mkF m 12 #[.val (.int p1), .val (.int p2), .val (.long p3), .second, .val (.int p4), .val (.int k0), .val (.int ((p1 >>> ((2 : Int32) &&& 31)) &&& (3 : Int32))), .unset, .unset, .unset, .unset, .unset, .unset, .unset, .unset, .unset, .unset, .unset, .unset, .unset] [])
  generalize ((p1 >>> ((2 : Int32) &&& 31)) &&& (3 : Int32)) = k1
  show Go _ _ _ _ _ s₁ (mkF m 12 #[.val (.int p1), .val (.int p2), .val (.long p3), .second, .val (.int p4), .val (.int k0), .val (.int k1), .unset, .unset, .unset, .unset, .unset, .unset, .unset, .unset, .unset, .unset, .unset, .unset, .unset] [])
  refine own_go (fun t k => XS.iloadN X0.here hx rfl (hb hby at_12) rfl k) ?_
  show Go _ _ _ _ _ s₁ (mkF m 13 #[.val (.int p1), .val (.int p2), .val (.long p3), .second, .val (.int p4), .val (.int k0), .val (.int k1), .unset, .unset, .unset, .unset, .unset, .unset, .unset, .unset, .unset, .unset, .unset, .unset, .unset] [(.int p1)])
  refine own_go (fun t k => XS.iconst X0.here hx rfl (hb hby at_13) k) ?_
  show Go _ _ _ _ _ s₁ (mkF m 14 #[.val (.int p1), .val (.int p2), .val (.long p3), .second, .val (.int p4), .val (.int k0), .val (.int k1), .unset, .unset, .unset, .unset, .unset, .unset, .unset, .unset, .unset, .unset, .unset, .unset, .unset] [(.int (4 : Int32)), (.int p1)])
  refine own_go (fun t k => XS.ishr X0.here hx rfl (hb hby at_14) rfl k) ?_
  show Go _ _ _ _ _ s₁ (mkF m 15 #[.val (.int p1), .val (.int p2), .val (.long p3), .second, .val (.int p4), .val (.int k0), .val (.int k1), .unset, .unset, .unset, .unset, .unset, .unset, .unset, .unset, .unset, .unset, .unset, .unset, .unset] [(.int (p1 >>> ((4 : Int32) &&& 31)))])
  refine own_go (fun t k => XS.iconst X0.here hx rfl (hb hby at_15) k) ?_
  show Go _ _ _ _ _ s₁ (mkF m 16 #[.val (.int p1), .val (.int p2), .val (.long p3), .second, .val (.int p4), .val (.int k0), .val (.int k1), .unset, .unset, .unset, .unset, .unset, .unset, .unset, .unset, .unset, .unset, .unset, .unset, .unset] [(.int (3 : Int32)), (.int (p1 >>> ((4 : Int32) &&& 31)))])
  refine own_go (fun t k => XS.iand X0.here hx rfl (hb hby at_16) rfl k) ?_
  show Go _ _ _ _ _ s₁ (mkF m 17 #[.val (.int p1), .val (.int p2), .val (.long p3), .second, .val (.int p4), .val (.int k0), .val (.int k1), .unset, .unset, .unset, .unset, .unset, .unset, .unset, .unset, .unset, .unset, .unset, .unset, .unset] [(.int ((p1 >>> ((4 : Int32) &&& 31)) &&& (3 : Int32)))])
  refine own_go (fun t k => XS.istore X0.here hx rfl (hb hby at_17) rfl (l' := #[.val (.int p1), .val (.int p2), .val (.long p3), .second, .val (.int p4), .val (.int k0), .val (.int k1), .val (.int ((p1 >>> ((4 : Int32) &&& 31)) &&& (3 : Int32))), .unset, .unset, .unset, .unset, .unset, .unset, .unset, .unset, .unset, .unset, .unset, .unset]) rfl k) ?_
  show Go _ _ _ _ _ s₁ (mkF m 19 #[.val (.int p1), .val (.int p2), .val (.long p3), .second, .val (.int p4), .val (.int k0), .val (.int k1), .val (.int ((p1 >>> ((4 : Int32) &&& 31)) &&& (3 : Int32))), .unset, .unset, .unset, .unset, .unset, .unset, .unset, .unset, .unset, .unset, .unset, .unset] [])
  generalize ((p1 >>> ((4 : Int32) &&& 31)) &&& (3 : Int32)) = k2
  show Go _ _ _ _ _ s₁ (mkF m 19 #[.val (.int p1), .val (.int p2), .val (.long p3), .second, .val (.int p4), .val (.int k0), .val (.int k1), .val (.int k2), .unset, .unset, .unset, .unset, .unset, .unset, .unset, .unset, .unset, .unset, .unset, .unset] [])
  refine own_go (fun t k => XS.iloadN X0.here hx rfl (hb hby at_19) rfl k) ?_
  show Go _ _ _ _ _ s₁ (mkF m 20 #[.val (.int p1), .val (.int p2), .val (.long p3), .second, .val (.int p4), .val (.int k0), .val (.int k1), .val (.int k2), .unset, .unset, .unset, .unset, .unset, .unset, .unset, .unset, .unset, .unset, .unset, .unset] [(.int p1)])
  refine own_go (fun t k => XS.bipush X0.here hx rfl (hb hby at_20) k) ?_
  show Go _ _ _ _ _ s₁ (mkF m 22 #[.val (.int p1), .val (.int p2), .val (.long p3), .second, .val (.int p4), .val (.int k0), .val (.int k1), .val (.int k2), .unset, .unset, .unset, .unset, .unset, .unset, .unset, .unset, .unset, .unset, .unset, .unset] [(.int (6 : Int32)), (.int p1)])
  refine own_go (fun t k => XS.ishr X0.here hx rfl (hb hby at_22) rfl k) ?_
  show Go _ _ _ _ _ s₁ (mkF m 23 #[.val (.int p1), .val (.int p2), .val (.long p3), .second, .val (.int p4), .val (.int k0), .val (.int k1), .val (.int k2), .unset, .unset, .unset, .unset, .unset, .unset, .unset, .unset, .unset, .unset, .unset, .unset] [(.int (p1 >>> ((6 : Int32) &&& 31)))])
  refine own_go (fun t k => XS.iconst X0.here hx rfl (hb hby at_23) k) ?_
  show Go _ _ _ _ _ s₁ (mkF m 24 #[.val (.int p1), .val (.int p2), .val (.long p3), .second, .val (.int p4), .val (.int k0), .val (.int k1), .val (.int k2), .unset, .unset, .unset, .unset, .unset, .unset, .unset, .unset, .unset, .unset, .unset, .unset] [(.int (3 : Int32)), (.int (p1 >>> ((6 : Int32) &&& 31)))])
  refine own_go (fun t k => XS.iand X0.here hx rfl (hb hby at_24) rfl k) ?_
  show Go _ _ _ _ _ s₁ (mkF m 25 #[.val (.int p1), .val (.int p2), .val (.long p3), .second, .val (.int p4), .val (.int k0), .val (.int k1), .val (.int k2), .unset, .unset, .unset, .unset, .unset, .unset, .unset, .unset, .unset, .unset, .unset, .unset] [(.int ((p1 >>> ((6 : Int32) &&& 31)) &&& (3 : Int32)))])
  refine own_go (fun t k => XS.istore X0.here hx rfl (hb hby at_25) rfl (l' := #[.val (.int p1), .val (.int p2), .val (.long p3), .second, .val (.int p4), .val (.int k0), .val (.int k1), .val (.int k2), .val (.int ((p1 >>> ((6 : Int32) &&& 31)) &&& (3 : Int32))), .unset, .unset, .unset, .unset, .unset, .unset, .unset, .unset, .unset, .unset, .unset]) rfl k) ?_
  show Go _ _ _ _ _ s₁ (mkF m 27 #[.val (.int p1), .val (.int p2), .val (.long p3), .second, .val (.int p4), .val (.int k0), .val (.int k1), .val (.int k2), .val (.int ((p1 >>> ((6 : Int32) &&& 31)) &&& (3 : Int32))), .unset, .unset, .unset, .unset, .unset, .unset, .unset, .unset, .unset, .unset, .unset] [])
  generalize ((p1 >>> ((6 : Int32) &&& 31)) &&& (3 : Int32)) = k3
  show Go _ _ _ _ _ s₁ (mkF m 27 #[.val (.int p1), .val (.int p2), .val (.long p3), .second, .val (.int p4), .val (.int k0), .val (.int k1), .val (.int k2), .val (.int k3), .unset, .unset, .unset, .unset, .unset, .unset, .unset, .unset, .unset, .unset, .unset] [])
  refine own_go (fun t k => XS.iload X0.here hx rfl (hb hby at_27) rfl k) ?_
  show Go _ _ _ _ _ s₁ (mkF m 29 #[.val (.int p1), .val (.int p2), .val (.long p3), .second, .val (.int p4), .val (.int k0), .val (.int k1), .val (.int k2), .val (.int k3), .unset, .unset, .unset, .unset, .unset, .unset, .unset, .unset, .unset, .unset, .unset] [(.int k0)])
  refine own_go (fun t k => XS.iloadN X0.here hx rfl (hb hby at_29) rfl k) ?_
  show Go _ _ _ _ _ s₁ (mkF m 30 #[.val (.int p1), .val (.int p2), .val (.long p3), .second, .val (.int p4), .val (.int k0), .val (.int k1), .val (.int k2), .val (.int k3), .unset, .unset, .unset, .unset, .unset, .unset, .unset, .unset, .unset, .unset, .unset] [(.int p2), (.int k0)])
  refine own_go (fun t k => XS.lloadN X0.here hx rfl (hb hby at_30) rfl k) ?_
  show Go _ _ _ _ _ s₁ (mkF m 31 #[.val (.int p1), .val (.int p2), .val (.long p3), .second, .val (.int p4), .val (.int k0), .val (.int k1), .val (.int k2), .val (.int k3), .unset, .unset, .unset, .unset, .unset, .unset, .unset, .unset, .unset, .unset, .unset] [(.long p3), (.int p2), (.int k0)])
  refine own_callS X0 hx hZ (y := (⟨"com/example/tallyfold/tallyfold/aggregate/CountAddPinLaw", "pick", "(IIJ)Ljava/lang/Object;"⟩ : MethodName)) hown (hw _ (List.mem_of_getElem? (i := 0) rfl)) (hw _ (List.mem_of_getElem? (i := 1) rfl)) (hw _ (List.mem_of_getElem? (i := 2) rfl)) (hw _ (List.mem_of_getElem? (i := 3) rfl)) (by decide) (rm_pick l Z a0 hw [] k0 p2 p3 ca la cs h0 n0 hn0 S_high S_cache Ca S_lc La S_cs hcs) e0 (by rw [hml]; rfl) (argsL := [(.int k0), (.int p2), (.long p3)]) (rest := []) rfl rfl (lenOf own_pd10 rfl) (W := 0) (Nat.le_of_eq rfl) (by decide) (by decide) (hb hby at_31) (by decide) (by decide) ?_
  intro v54 T54 L54 X54 q54
  obtain ⟨pv54, rfl, hr54, hv54, N54q, K54⟩ := q54
  have N54 := Fr.app N0 N54q
  replace S_lc := own_sta_keep S_lc K54 all0
  replace S_high := own_sta_keep S_high K54 all0
  replace S_cache := own_sta_keep S_cache K54 all0
  replace S_cs := own_sta_keep S_cs K54 all0
  replace La := La.keep K54 all0
  replace Ca := Ca.keep K54 nin0
  have hn54 : n0 ≤ T54.heap.size := Nat.le_trans hn0 K54.1
  show Go _ _ _ _ _ T54 (mkF m 34 #[.val (.int p1), .val (.int p2), .val (.long p3), .second, .val (.int p4), .val (.int k0), .val (.int k1), .val (.int k2), .val (.int k3), .unset, .unset, .unset, .unset, .unset, .unset, .unset, .unset, .unset, .unset, .unset] [pv54])
  refine own_go (fun t k => XS.astore X54.here hx rfl (hb hby at_34) rfl hr54 (l' := #[.val (.int p1), .val (.int p2), .val (.long p3), .second, .val (.int p4), .val (.int k0), .val (.int k1), .val (.int k2), .val (.int k3), .val pv54, .unset, .unset, .unset, .unset, .unset, .unset, .unset, .unset, .unset, .unset]) ((XS.store1 (o := .unset) rfl (Or.inl rfl) (own_cat hr54)).trans rfl) k) ?_
  show Go _ _ _ _ _ T54 (mkF m 36 #[.val (.int p1), .val (.int p2), .val (.long p3), .second, .val (.int p4), .val (.int k0), .val (.int k1), .val (.int k2), .val (.int k3), .val pv54, .unset, .unset, .unset, .unset, .unset, .unset, .unset, .unset, .unset, .unset] [])
  refine own_go (fun t k => XS.iload X54.here hx rfl (hb hby at_36) rfl k) ?_
  show Go _ _ _ _ _ T54 (mkF m 38 #[.val (.int p1), .val (.int p2), .val (.long p3), .second, .val (.int p4), .val (.int k0), .val (.int k1), .val (.int k2), .val (.int k3), .val pv54, .unset, .unset, .unset, .unset, .unset, .unset, .unset, .unset, .unset, .unset] [(.int k1)])
  refine own_go (fun t k => XS.iload X54.here hx rfl (hb hby at_38) rfl k) ?_
  show Go _ _ _ _ _ T54 (mkF m 40 #[.val (.int p1), .val (.int p2), .val (.long p3), .second, .val (.int p4), .val (.int k0), .val (.int k1), .val (.int k2), .val (.int k3), .val pv54, .unset, .unset, .unset, .unset, .unset, .unset, .unset, .unset, .unset, .unset] [(.int p4), (.int k1)])
  refine own_go (fun t k => XS.lloadN X54.here hx rfl (hb hby at_40) rfl k) ?_
  show Go _ _ _ _ _ T54 (mkF m 41 #[.val (.int p1), .val (.int p2), .val (.long p3), .second, .val (.int p4), .val (.int k0), .val (.int k1), .val (.int k2), .val (.int k3), .val pv54, .unset, .unset, .unset, .unset, .unset, .unset, .unset, .unset, .unset, .unset] [(.long p3), (.int p4), (.int k1)])
  refine own_callS X54 hx hZ (y := (⟨"com/example/tallyfold/tallyfold/aggregate/CountAddPinLaw", "pick", "(IIJ)Ljava/lang/Object;"⟩ : MethodName)) hown (hw _ (List.mem_of_getElem? (i := 0) rfl)) (hw _ (List.mem_of_getElem? (i := 1) rfl)) (hw _ (List.mem_of_getElem? (i := 2) rfl)) (hw _ (List.mem_of_getElem? (i := 3) rfl)) (by decide) (rm_pick l Z a0 hw [] k1 p4 p3 ca la cs T54.heap n0 hn54 S_high S_cache Ca S_lc La S_cs hcs) rfl (by rw [hml]; rfl) (argsL := [(.int k1), (.int p4), (.long p3)]) (rest := []) rfl rfl (lenOf own_pd10 rfl) (W := 0) (Nat.le_of_eq rfl) (by decide) (by decide) (hb hby at_41) (by decide) (by decide) ?_
  intro v55 T55 L55 X55 q55
  obtain ⟨pv55, rfl, hr55, hv55, N55q, K55⟩ := q55
  have N55 := Fr.app N54 N55q
  replace S_lc := own_sta_keep S_lc K55 all0
  replace S_high := own_sta_keep S_high K55 all0
  replace S_cache := own_sta_keep S_cache K55 all0
  replace S_cs := own_sta_keep S_cs K55 all0
  replace La := La.keep K55 all0
  replace Ca := Ca.keep K55 nin0
  have hn55 : n0 ≤ T55.heap.size := Nat.le_trans hn54 K55.1
  show Go _ _ _ _ _ T55 (mkF m 44 #[.val (.int p1), .val (.int p2), .val (.long p3), .second, .val (.int p4), .val (.int k0), .val (.int k1), .val (.int k2), .val (.int k3), .val pv54, .unset, .unset, .unset, .unset, .unset, .unset, .unset, .unset, .unset, .unset] [pv55])
  refine own_go (fun t k => XS.astore X55.here hx rfl (hb hby at_44) rfl hr55 (l' := #[.val (.int p1), .val (.int p2), .val (.long p3), .second, .val (.int p4), .val (.int k0), .val (.int k1), .val (.int k2), .val (.int k3), .val pv54, .val pv55, .unset, .unset, .unset, .unset, .unset, .unset, .unset, .unset, .unset]) ((XS.store1 (o := .unset) rfl (Or.inl rfl) (own_cat hr55)).trans rfl) k) ?_
  show Go _ _ _ _ _ T55 (mkF m 46 #[.val (.int p1), .val (.int p2), .val (.long p3), .second, .val (.int p4), .val (.int k0), .val (.int k1), .val (.int k2), .val (.int k3), .val pv54, .val pv55, .unset, .unset, .unset, .unset, .unset, .unset, .unset, .unset, .unset] [])
  refine own_go (fun t k => XS.iload X55.here hx rfl (hb hby at_46) rfl k) ?_
  show Go _ _ _ _ _ T55 (mkF m 48 #[.val (.int p1), .val (.int p2), .val (.long p3), .second, .val (.int p4), .val (.int k0), .val (.int k1), .val (.int k2), .val (.int k3), .val pv54, .val pv55, .unset, .unset, .unset, .unset, .unset, .unset, .unset, .unset, .unset] [(.int k2)])
  refine own_go (fun t k => XS.iloadN X55.here hx rfl (hb hby at_48) rfl k) ?_
  show Go _ _ _ _ _ T55 (mkF m 49 #[.val (.int p1), .val (.int p2), .val (.long p3), .second, .val (.int p4), .val (.int k0), .val (.int k1), .val (.int k2), .val (.int k3), .val pv54, .val pv55, .unset, .unset, .unset, .unset, .unset, .unset, .unset, .unset, .unset] [(.int p2), (.int k2)])
  refine own_go (fun t k => XS.lloadN X55.here hx rfl (hb hby at_49) rfl k) ?_
  show Go _ _ _ _ _ T55 (mkF m 50 #[.val (.int p1), .val (.int p2), .val (.long p3), .second, .val (.int p4), .val (.int k0), .val (.int k1), .val (.int k2), .val (.int k3), .val pv54, .val pv55, .unset, .unset, .unset, .unset, .unset, .unset, .unset, .unset, .unset] [(.long p3), (.int p2), (.int k2)])
  refine own_callS X55 hx hZ (y := (⟨"com/example/tallyfold/tallyfold/aggregate/CountAddPinLaw", "pick", "(IIJ)Ljava/lang/Object;"⟩ : MethodName)) hown (hw _ (List.mem_of_getElem? (i := 0) rfl)) (hw _ (List.mem_of_getElem? (i := 1) rfl)) (hw _ (List.mem_of_getElem? (i := 2) rfl)) (hw _ (List.mem_of_getElem? (i := 3) rfl)) (by decide) (rm_pick l Z a0 hw [] k2 p2 p3 ca la cs T55.heap n0 hn55 S_high S_cache Ca S_lc La S_cs hcs) rfl (by rw [hml]; rfl) (argsL := [(.int k2), (.int p2), (.long p3)]) (rest := []) rfl rfl (lenOf own_pd10 rfl) (W := 0) (Nat.le_of_eq rfl) (by decide) (by decide) (hb hby at_50) (by decide) (by decide) ?_
  intro v56 T56 L56 X56 q56
  obtain ⟨pv56, rfl, hr56, hv56, N56q, K56⟩ := q56
  have N56 := Fr.app N55 N56q
  replace S_lc := own_sta_keep S_lc K56 all0
  replace S_high := own_sta_keep S_high K56 all0
  replace S_cache := own_sta_keep S_cache K56 all0
  replace S_cs := own_sta_keep S_cs K56 all0
  replace La := La.keep K56 all0
  replace Ca := Ca.keep K56 nin0
  have hn56 : n0 ≤ T56.heap.size := Nat.le_trans hn55 K56.1
  show Go _ _ _ _ _ T56 (mkF m 53 #[.val (.int p1), .val (.int p2), .val (.long p3), .second, .val (.int p4), .val (.int k0), .val (.int k1), .val (.int k2), .val (.int k3), .val pv54, .val pv55, .unset, .unset, .unset, .unset, .unset, .unset, .unset, .unset, .unset] [pv56])
  refine own_go (fun t k => XS.astore X56.here hx rfl (hb hby at_53) rfl hr56 (l' := #[.val (.int p1), .val (.int p2), .val (.long p3), .second, .val (.int p4), .val (.int k0), .val (.int k1), .val (.int k2), .val (.int k3), .val pv54, .val pv55, .val pv56, .unset, .unset, .unset, .unset, .unset, .unset, .unset, .unset]) ((XS.store1 (o := .unset) rfl (Or.inl rfl) (own_cat hr56)).trans rfl) k) ?_
  show Go _ _ _ _ _ T56 (mkF m 55 #[.val (.int p1), .val (.int p2), .val (.long p3), .second, .val (.int p4), .val (.int k0), .val (.int k1), .val (.int k2), .val (.int k3), .val pv54, .val pv55, .val pv56, .unset, .unset, .unset, .unset, .unset, .unset, .unset, .unset] [])
  refine own_go (fun t k => XS.iload X56.here hx rfl (hb hby at_55) rfl k) ?_
  show Go _ _ _ _ _ T56 (mkF m 57 #[.val (.int p1), .val (.int p2), .val (.long p3), .second, .val (.int p4), .val (.int k0), .val (.int k1), .val (.int k2), .val (.int k3), .val pv54, .val pv55, .val pv56, .unset, .unset, .unset, .unset, .unset, .unset, .unset, .unset] [(.int k3)])
  refine own_go (fun t k => XS.iload X56.here hx rfl (hb hby at_57) rfl k) ?_
  show Go _ _ _ _ _ T56 (mkF m 59 #[.val (.int p1), .val (.int p2), .val (.long p3), .second, .val (.int p4), .val (.int k0), .val (.int k1), .val (.int k2), .val (.int k3), .val pv54, .val pv55, .val pv56, .unset, .unset, .unset, .unset, .unset, .unset, .unset, .unset] [(.int p4), (.int k3)])
  refine own_go (fun t k => XS.lloadN X56.here hx rfl (hb hby at_59) rfl k) ?_
  show Go _ _ _ _ _ T56 (mkF m 60 #[.val (.int p1), .val (.int p2), .val (.long p3), .second, .val (.int p4), .val (.int k0), .val (.int k1), .val (.int k2), .val (.int k3), .val pv54, .val pv55, .val pv56, .unset, .unset, .unset, .unset, .unset, .unset, .unset, .unset] [(.long p3), (.int p4), (.int k3)])
  refine own_callS X56 hx hZ (y := (⟨"com/example/tallyfold/tallyfold/aggregate/CountAddPinLaw", "pick", "(IIJ)Ljava/lang/Object;"⟩ : MethodName)) hown (hw _ (List.mem_of_getElem? (i := 0) rfl)) (hw _ (List.mem_of_getElem? (i := 1) rfl)) (hw _ (List.mem_of_getElem? (i := 2) rfl)) (hw _ (List.mem_of_getElem? (i := 3) rfl)) (by decide) (rm_pick l Z a0 hw [] k3 p4 p3 ca la cs T56.heap n0 hn56 S_high S_cache Ca S_lc La S_cs hcs) rfl (by rw [hml]; rfl) (argsL := [(.int k3), (.int p4), (.long p3)]) (rest := []) rfl rfl (lenOf own_pd10 rfl) (W := 0) (Nat.le_of_eq rfl) (by decide) (by decide) (hb hby at_60) (by decide) (by decide) ?_
  intro v57 T57 L57 X57 q57
  obtain ⟨pv57, rfl, hr57, hv57, N57q, K57⟩ := q57
  have N57 := Fr.app N56 N57q
  replace S_lc := own_sta_keep S_lc K57 all0
  replace S_high := own_sta_keep S_high K57 all0
  replace S_cache := own_sta_keep S_cache K57 all0
  replace S_cs := own_sta_keep S_cs K57 all0
  replace La := La.keep K57 all0
  replace Ca := Ca.keep K57 nin0
  have hn57 : n0 ≤ T57.heap.size := Nat.le_trans hn56 K57.1
  show Go _ _ _ _ _ T57 (mkF m 63 #[.val (.int p1), .val (.int p2), .val (.long p3), .second, .val (.int p4), .val (.int k0), .val (.int k1), .val (.int k2), .val (.int k3), .val pv54, .val pv55, .val pv56, .unset, .unset, .unset, .unset, .unset, .unset, .unset, .unset] [pv57])
  refine own_go (fun t k => XS.astore X57.here hx rfl (hb hby at_63) rfl hr57 (l' := #[.val (.int p1), .val (.int p2), .val (.long p3), .second, .val (.int p4), .val (.int k0), .val (.int k1), .val (.int k2), .val (.int k3), .val pv54, .val pv55, .val pv56, .val pv57, .unset, .unset, .unset, .unset, .unset, .unset, .unset]) ((XS.store1 (o := .unset) rfl (Or.inl rfl) (own_cat hr57)).trans rfl) k) ?_
  show Go _ _ _ _ _ T57 (mkF m 65 #[.val (.int p1), .val (.int p2), .val (.long p3), .second, .val (.int p4), .val (.int k0), .val (.int k1), .val (.int k2), .val (.int k3), .val pv54, .val pv55, .val pv56, .val pv57, .unset, .unset, .unset, .unset, .unset, .unset, .unset] [])
  refine own_go (fun t k => XS.iload X57.here hx rfl (hb hby at_65) rfl k) ?_
  have J58 : ∀ (j5 : Int64), j5 = own_nz k0 → Go p e below (EndN s (room_1.cells) (room_1.slots)) (OwnR (some (.int 1)) n0) T57 (mkF m 75 #[.val (.int p1), .val (.int p2), .val (.long p3), .second, .val (.int p4), .val (.int k0), .val (.int k1), .val (.int k2), .val (.int k3), .val pv54, .val pv55, .val pv56, .val pv57, .unset, .unset, .unset, .unset, .unset, .unset, .unset] [(.long j5)]) := by
    intro j5 h_j5
    show Go _ _ _ _ _ T57 (mkF m 75 #[.val (.int p1), .val (.int p2), .val (.long p3), .second, .val (.int p4), .val (.int k0), .val (.int k1), .val (.int k2), .val (.int k3), .val pv54, .val pv55, .val pv56, .val pv57, .unset, .unset, .unset, .unset, .unset, .unset, .unset] [(.long j5)])
    refine own_go (fun t k => XS.iload X57.here hx rfl (hb hby at_75) rfl k) ?_
    have J59 : ∀ (j6 : Int64), j6 = own_nz k1 → Go p e below (EndN s (room_1.cells) (room_1.slots)) (OwnR (some (.int 1)) n0) T57 (mkF m 85 #[.val (.int p1), .val (.int p2), .val (.long p3), .second, .val (.int p4), .val (.int k0), .val (.int k1), .val (.int k2), .val (.int k3), .val pv54, .val pv55, .val pv56, .val pv57, .unset, .unset, .unset, .unset, .unset, .unset, .unset] [(.long j6), (.long j5)]) := by
      intro j6 h_j6
      show Go _ _ _ _ _ T57 (mkF m 85 #[.val (.int p1), .val (.int p2), .val (.long p3), .second, .val (.int p4), .val (.int k0), .val (.int k1), .val (.int k2), .val (.int k3), .val pv54, .val pv55, .val pv56, .val pv57, .unset, .unset, .unset, .unset, .unset, .unset, .unset] [(.long j6), (.long j5)])
      refine own_go (fun t k => XS.ladd X57.here hx rfl (hb hby at_85) rfl k) ?_
      show Go _ _ _ _ _ T57 (mkF m 86 #[.val (.int p1), .val (.int p2), .val (.long p3), .second, .val (.int p4), .val (.int k0), .val (.int k1), .val (.int k2), .val (.int k3), .val pv54, .val pv55, .val pv56, .val pv57, .unset, .unset, .unset, .unset, .unset, .unset, .unset] [(.long (j5 + j6))])
      refine own_go (fun t k => XS.lstore X57.here hx rfl (hb hby at_86) rfl (l' := #[.val (.int p1), .val (.int p2), .val (.long p3), .second, .val (.int p4), .val (.int k0), .val (.int k1), .val (.int k2), .val (.int k3), .val pv54, .val pv55, .val pv56, .val pv57, .val (.long (j5 + j6)), .second, .unset, .unset, .unset, .unset, .unset]) rfl k) ?_
      show Go _ _ _ _ _ T57 (mkF m 88 #[.val (.int p1), .val (.int p2), .val (.long p3), .second, .val (.int p4), .val (.int k0), .val (.int k1), .val (.int k2), .val (.int k3), .val pv54, .val pv55, .val pv56, .val pv57, .val (.long (j5 + j6)), .second, .unset, .unset, .unset, .unset, .unset] [])
      refine own_go (fun t k => XS.lload X57.here hx rfl (hb hby at_88) rfl k) ?_
      show Go _ _ _ _ _ T57 (mkF m 90 #[.val (.int p1), .val (.int p2), .val (.long p3), .second, .val (.int p4), .val (.int k0), .val (.int k1), .val (.int k2), .val (.int k3), .val pv54, .val pv55, .val pv56, .val pv57, .val (.long (j5 + j6)), .second, .unset, .unset, .unset, .unset, .unset] [(.long (j5 + j6))])
      refine own_go (fun t k => XS.iload X57.here hx rfl (hb hby at_90) rfl k) ?_
      have J60 : ∀ (j7 : Int64), j7 = own_nz k2 → Go p e below (EndN s (room_1.cells) (room_1.slots)) (OwnR (some (.int 1)) n0) T57 (mkF m 100 #[.val (.int p1), .val (.int p2), .val (.long p3), .second, .val (.int p4), .val (.int k0), .val (.int k1), .val (.int k2), .val (.int k3), .val pv54, .val pv55, .val pv56, .val pv57, .val (.long (j5 + j6)), .second, .unset, .unset, .unset, .unset, .unset] [(.long j7), (.long (j5 + j6))]) := by
        intro j7 h_j7
        show Go _ _ _ _ _ T57 (mkF m 100 #[.val (.int p1), .val (.int p2), .val (.long p3), .second, .val (.int p4), .val (.int k0), .val (.int k1), .val (.int k2), .val (.int k3), .val pv54, .val pv55, .val pv56, .val pv57, .val (.long (j5 + j6)), .second, .unset, .unset, .unset, .unset, .unset] [(.long j7), (.long (j5 + j6))])
        refine own_go (fun t k => XS.ladd X57.here hx rfl (hb hby at_100) rfl k) ?_
        show Go _ _ _ _ _ T57 (mkF m 101 #[.val (.int p1), .val (.int p2), .val (.long p3), .second, .val (.int p4), .val (.int k0), .val (.int k1), .val (.int k2), .val (.int k3), .val pv54, .val pv55, .val pv56, .val pv57, .val (.long (j5 + j6)), .second, .unset, .unset, .unset, .unset, .unset] [(.long ((j5 + j6) + j7))])
        refine own_go (fun t k => XS.iload X57.here hx rfl (hb hby at_101) rfl k) ?_
        have J61 : ∀ (j8 : Int64), j8 = own_nz k3 → Go p e below (EndN s (room_1.cells) (room_1.slots)) (OwnR (some (.int 1)) n0) T57 (mkF m 111 #[.val (.int p1), .val (.int p2), .val (.long p3), .second, .val (.int p4), .val (.int k0), .val (.int k1), .val (.int k2), .val (.int k3), .val pv54, .val pv55, .val pv56, .val pv57, .val (.long (j5 + j6)), .second, .unset, .unset, .unset, .unset, .unset] [(.long j8), (.long ((j5 + j6) + j7))]) := by
          intro j8 h_j8
          show Go _ _ _ _ _ T57 (mkF m 111 #[.val (.int p1), .val (.int p2), .val (.long p3), .second, .val (.int p4), .val (.int k0), .val (.int k1), .val (.int k2), .val (.int k3), .val pv54, .val pv55, .val pv56, .val pv57, .val (.long (j5 + j6)), .second, .unset, .unset, .unset, .unset, .unset] [(.long j8), (.long ((j5 + j6) + j7))])
          refine own_go (fun t k => XS.ladd X57.here hx rfl (hb hby at_111) rfl k) ?_
          show Go _ _ _ _ _ T57 (mkF m 112 #[.val (.int p1), .val (.int p2), .val (.long p3), .second, .val (.int p4), .val (.int k0), .val (.int k1), .val (.int k2), .val (.int k3), .val pv54, .val pv55, .val pv56, .val pv57, .val (.long (j5 + j6)), .second, .unset, .unset, .unset, .unset, .unset] [(.long (((j5 + j6) + j7) + j8))])
          refine own_go (fun t k => XS.lstore X57.here hx rfl (hb hby at_112) rfl (l' := #[.val (.int p1), .val (.int p2), .val (.long p3), .second, .val (.int p4), .val (.int k0), .val (.int k1), .val (.int k2), .val (.int k3), .val pv54, .val pv55, .val pv56, .val pv57, .val (.long (j5 + j6)), .second, .val (.long (((j5 + j6) + j7) + j8)), .second, .unset, .unset, .unset]) rfl k) ?_
          show Go _ _ _ _ _ T57 (mkF m 114 #[.val (.int p1), .val (.int p2), .val (.long p3), .second, .val (.int p4), .val (.int k0), .val (.int k1), .val (.int k2), .val (.int k3), .val pv54, .val pv55, .val pv56, .val pv57, .val (.long (j5 + j6)), .second, .val (.long (((j5 + j6) + j7) + j8)), .second, .unset, .unset, .unset] [])
          obtain ⟨T62, h62, X62, e62, E62, A62, D62, -, st62⟩ := newO X57 hx hZ hown (hw _ (List.mem_of_getElem? (i := 4) rfl)) (hw _ (List.mem_of_getElem? (i := 5) rfl)) (hw _ (List.mem_of_getElem? (i := 6) rfl)) rfl (g := (mkF m 114 #[.val (.int p1), .val (.int p2), .val (.long p3), .second, .val (.int p4), .val (.int k0), .val (.int k1), .val (.int k2), .val (.int k3), .val pv54, .val pv55, .val pv56, .val pv57, .val (.long (j5 + j6)), .second, .val (.long (((j5 + j6) + j7) + j8)), .second, .unset, .unset, .unset] [])) rfl (hb hby at_114) (by decide) (by decide)
          obtain ⟨b62, g62⟩ : ∃ z, z = T57.heap.size := ⟨_, rfl⟩
          rw [← g62] at A62 D62 st62
          have ne_la_b62 : ¬ la = b62 := Nat.ne_of_lt (by rw [g62]; exact La.lt)
          have ne_ca_b62 : ¬ ca = b62 := Nat.ne_of_lt (by rw [g62]; exact Ca.lt)
          replace S_lc := S_lc.ext E62
          replace S_high := S_high.ext E62
          replace S_cache := S_cache.ext E62
          replace S_cs := S_cs.ext E62
          replace La := La.ext E62
          replace Ca := Ca.ext E62
          have g_b62 : n0 ≤ b62 := by rw [g62]; exact hn57
          have hn62 : n0 ≤ h62.size := Nat.le_trans hn57 E62.1
          have F_count_b62 : Fld Z h62 b62 "com/example/tallyfold/tallyfold/aggregate/Count" "count" "J" (.long (0 : Int64)) := D62 (Or.inl (hw _ (List.mem_of_getElem? (i := 24) rfl))) (ty := .long) (by decide)
          refine own_go (fun t k => st62 t k) ?_
          show Go _ _ _ _ _ T62 (mkF m 117 #[.val (.int p1), .val (.int p2), .val (.long p3), .second, .val (.int p4), .val (.int k0), .val (.int k1), .val (.int k2), .val (.int k3), .val pv54, .val pv55, .val pv56, .val pv57, .val (.long (j5 + j6)), .second, .val (.long (((j5 + j6) + j7) + j8)), .second, .unset, .unset, .unset] [(.ref b62)])
          refine own_go (fun t k => XS.dup X62.here hx rfl (hb hby at_117) rfl rfl k) ?_
          show Go _ _ _ _ _ T62 (mkF m 118 #[.val (.int p1), .val (.int p2), .val (.long p3), .second, .val (.int p4), .val (.int k0), .val (.int k1), .val (.int k2), .val (.int k3), .val pv54, .val pv55, .val pv56, .val pv57, .val (.long (j5 + j6)), .second, .val (.long (((j5 + j6) + j7) + j8)), .second, .unset, .unset, .unset] [(.ref b62), (.ref b62)])
          refine own_callI X62 hx hZ (y := (⟨"com/example/tallyfold/tallyfold/aggregate/Count", "<init>", "()V"⟩ : MethodName)) rfl hown (hw _ (List.mem_of_getElem? (i := 7) rfl)) (hw _ (List.mem_of_getElem? (i := 8) rfl)) (hw _ (List.mem_of_getElem? (i := 9) rfl)) (hw _ (List.mem_of_getElem? (i := 6) rfl)) (by decide) (rm2 l Z a0 hw [] b62 h62 n0 hn62) e62 (b := b62) (by rw [hml]; rfl) (argsL := []) (rest := [(.ref b62)]) rfl rfl (lenOf own_pd0 rfl) (W := 1) (Nat.le_of_eq rfl) (by decide) (by decide) (hb hby at_118) (by decide) (by decide) ?_
          intro v63 T63 L63 X63 q63
          obtain ⟨rfl, N63q, e63⟩ := q63
          have N63 := Fr.app N57 N63q
          show Go _ _ _ _ _ T63 (mkF m 121 #[.val (.int p1), .val (.int p2), .val (.long p3), .second, .val (.int p4), .val (.int k0), .val (.int k1), .val (.int k2), .val (.int k3), .val pv54, .val pv55, .val pv56, .val pv57, .val (.long (j5 + j6)), .second, .val (.long (((j5 + j6) + j7) + j8)), .second, .unset, .unset, .unset] [(.ref b62)])
          refine own_go (fun t k => XS.astore X63.here hx rfl (hb hby at_121) rfl rfl (l' := #[.val (.int p1), .val (.int p2), .val (.long p3), .second, .val (.int p4), .val (.int k0), .val (.int k1), .val (.int k2), .val (.int k3), .val pv54, .val pv55, .val pv56, .val pv57, .val (.long (j5 + j6)), .second, .val (.long (((j5 + j6) + j7) + j8)), .second, .val (.ref b62), .unset, .unset]) rfl k) ?_
          show Go _ _ _ _ _ T63 (mkF m 123 #[.val (.int p1), .val (.int p2), .val (.long p3), .second, .val (.int p4), .val (.int k0), .val (.int k1), .val (.int k2), .val (.int k3), .val pv54, .val pv55, .val pv56, .val pv57, .val (.long (j5 + j6)), .second, .val (.long (((j5 + j6) + j7) + j8)), .second, .val (.ref b62), .unset, .unset] [])
          refine own_go (fun t k => XS.aload X63.here hx rfl (hb hby at_123) rfl rfl k) ?_
          show Go _ _ _ _ _ T63 (mkF m 125 #[.val (.int p1), .val (.int p2), .val (.long p3), .second, .val (.int p4), .val (.int k0), .val (.int k1), .val (.int k2), .val (.int k3), .val pv54, .val pv55, .val pv56, .val pv57, .val (.long (j5 + j6)), .second, .val (.long (((j5 + j6) + j7) + j8)), .second, .val (.ref b62), .unset, .unset] [(.ref b62)])
          refine own_go (fun t k => XS.aload X63.here hx rfl (hb hby at_125) rfl hr54 k) ?_
          show Go _ _ _ _ _ T63 (mkF m 127 #[.val (.int p1), .val (.int p2), .val (.long p3), .second, .val (.int p4), .val (.int k0), .val (.int k1), .val (.int k2), .val (.int k3), .val pv54, .val pv55, .val pv56, .val pv57, .val (.long (j5 + j6)), .second, .val (.long (((j5 + j6) + j7) + j8)), .second, .val (.ref b62), .unset, .unset] [pv54, (.ref b62)])
          refine own_callV X63 hx hZ (y := (⟨"com/example/tallyfold/tallyfold/aggregate/Count", "add", "(Ljava/lang/Object;)V"⟩ : MethodName)) hown (hw _ (List.mem_of_getElem? (i := 13) rfl)) (hw _ (List.mem_of_getElem? (i := 14) rfl)) (hw _ (List.mem_of_getElem? (i := 16) rfl)) (hw _ (List.mem_of_getElem? (i := 15) rfl)) (hw _ (List.mem_of_getElem? (i := 17) rfl)) (hw _ (List.mem_of_getElem? (i := 6) rfl)) (by decide) (rm_add l Z a0 hw [] b62 pv54 (0 : Int64) h62 n0 hn62 A62 F_count_b62 g_b62 hr54) e63 A62 (by rw [hml]; rfl) (argsL := [pv54]) (rest := []) rfl rfl (lenOf own_pd11 rfl) (W := 0) (Nat.le_of_eq rfl) (by decide) (by decide) (hb hby at_127) (by decide) (by decide) ?_
          intro v64 T64 L64 X64 q64
          obtain ⟨rfl, N64q, K64, Fc64⟩ := q64
          have N64 := Fr.app N63 N64q
          rw [hv54] at Fc64
          replace S_lc := own_sta_keep S_lc K64 (allS ⟨_, A62⟩ all0)
          replace S_high := own_sta_keep S_high K64 (allS ⟨_, A62⟩ all0)
          replace S_cache := own_sta_keep S_cache K64 (allS ⟨_, A62⟩ all0)
          replace S_cs := own_sta_keep S_cs K64 (allS ⟨_, A62⟩ all0)
          replace La := La.keep K64 (allS g_b62 all0)
          replace Ca := Ca.keep K64 (ninS ne_ca_b62 nin0)
          replace A62 := A62.keep K64
          have hn64 : n0 ≤ T64.heap.size := Nat.le_trans hn62 K64.1
          show Go _ _ _ _ _ T64 (mkF m 130 #[.val (.int p1), .val (.int p2), .val (.long p3), .second, .val (.int p4), .val (.int k0), .val (.int k1), .val (.int k2), .val (.int k3), .val pv54, .val pv55, .val pv56, .val pv57, .val (.long (j5 + j6)), .second, .val (.long (((j5 + j6) + j7) + j8)), .second, .val (.ref b62), .unset, .unset] [])
          refine own_go (fun t k => XS.aload X64.here hx rfl (hb hby at_130) rfl rfl k) ?_
          show Go _ _ _ _ _ T64 (mkF m 132 #[.val (.int p1), .val (.int p2), .val (.long p3), .second, .val (.int p4), .val (.int k0), .val (.int k1), .val (.int k2), .val (.int k3), .val pv54, .val pv55, .val pv56, .val pv57, .val (.long (j5 + j6)), .second, .val (.long (((j5 + j6) + j7) + j8)), .second, .val (.ref b62), .unset, .unset] [(.ref b62)])
          refine own_go (fun t k => XS.aload X64.here hx rfl (hb hby at_132) rfl hr55 k) ?_
          show Go _ _ _ _ _ T64 (mkF m 134 #[.val (.int p1), .val (.int p2), .val (.long p3), .second, .val (.int p4), .val (.int k0), .val (.int k1), .val (.int k2), .val (.int k3), .val pv54, .val pv55, .val pv56, .val pv57, .val (.long (j5 + j6)), .second, .val (.long (((j5 + j6) + j7) + j8)), .second, .val (.ref b62), .unset, .unset] [pv55, (.ref b62)])
          refine own_callV X64 hx hZ (y := (⟨"com/example/tallyfold/tallyfold/aggregate/Count", "add", "(Ljava/lang/Object;)V"⟩ : MethodName)) hown (hw _ (List.mem_of_getElem? (i := 13) rfl)) (hw _ (List.mem_of_getElem? (i := 14) rfl)) (hw _ (List.mem_of_getElem? (i := 16) rfl)) (hw _ (List.mem_of_getElem? (i := 15) rfl)) (hw _ (List.mem_of_getElem? (i := 17) rfl)) (hw _ (List.mem_of_getElem? (i := 6) rfl)) (by decide) (rm_add l Z a0 hw [] b62 pv55 ((0 : Int64) + (own_nz k0)) T64.heap n0 hn64 A62 Fc64 g_b62 hr55) rfl A62 (by rw [hml]; rfl) (argsL := [pv55]) (rest := []) rfl rfl (lenOf own_pd11 rfl) (W := 0) (Nat.le_of_eq rfl) (by decide) (by decide) (hb hby at_134) (by decide) (by decide) ?_
          intro v65 T65 L65 X65 q65
          obtain ⟨rfl, N65q, K65, Fc65⟩ := q65
          have N65 := Fr.app N64 N65q
          rw [hv55] at Fc65
          replace S_lc := own_sta_keep S_lc K65 (allS ⟨_, A62⟩ all0)
          replace S_high := own_sta_keep S_high K65 (allS ⟨_, A62⟩ all0)
          replace S_cache := own_sta_keep S_cache K65 (allS ⟨_, A62⟩ all0)
          replace S_cs := own_sta_keep S_cs K65 (allS ⟨_, A62⟩ all0)
          replace La := La.keep K65 (allS g_b62 all0)
          replace Ca := Ca.keep K65 (ninS ne_ca_b62 nin0)
          replace A62 := A62.keep K65
          have hn65 : n0 ≤ T65.heap.size := Nat.le_trans hn64 K65.1
          show Go _ _ _ _ _ T65 (mkF m 137 #[.val (.int p1), .val (.int p2), .val (.long p3), .second, .val (.int p4), .val (.int k0), .val (.int k1), .val (.int k2), .val (.int k3), .val pv54, .val pv55, .val pv56, .val pv57, .val (.long (j5 + j6)), .second, .val (.long (((j5 + j6) + j7) + j8)), .second, .val (.ref b62), .unset, .unset] [])
          refine own_go (fun t k => XS.aload X65.here hx rfl (hb hby at_137) rfl rfl k) ?_
          show Go _ _ _ _ _ T65 (mkF m 139 #[.val (.int p1), .val (.int p2), .val (.long p3), .second, .val (.int p4), .val (.int k0), .val (.int k1), .val (.int k2), .val (.int k3), .val pv54, .val pv55, .val pv56, .val pv57, .val (.long (j5 + j6)), .second, .val (.long (((j5 + j6) + j7) + j8)), .second, .val (.ref b62), .unset, .unset] [(.ref b62)])
          refine own_callV X65 hx hZ (y := (⟨"com/example/tallyfold/tallyfold/aggregate/Count", "result", "()Ljava/lang/Object;"⟩ : MethodName)) hown (hw _ (List.mem_of_getElem? (i := 18) rfl)) (hw _ (List.mem_of_getElem? (i := 19) rfl)) (hw _ (List.mem_of_getElem? (i := 21) rfl)) (hw _ (List.mem_of_getElem? (i := 20) rfl)) (hw _ (List.mem_of_getElem? (i := 22) rfl)) (hw _ (List.mem_of_getElem? (i := 6) rfl)) (by decide) (rm_res l Z a0 hw [] b62 (((0 : Int64) + (own_nz k0)) + (own_nz k1)) la T65.heap n0 hn65 A62 Fc65 S_lc La) rfl A62 (by rw [hml]; rfl) (argsL := []) (rest := []) rfl rfl (lenOf own_pd12 rfl) (W := 0) (Nat.le_of_eq rfl) (by decide) (by decide) (hb hby at_139) (by decide) (by decide) ?_
          intro v66 T66 L66 X66 q66
          obtain ⟨b66, rfl, N66q, K66, Ex66, Fx66⟩ := q66
          have N66 := Fr.app N65 N66q
          replace S_lc := own_sta_keep S_lc K66 all0
          replace S_high := own_sta_keep S_high K66 all0
          replace S_cache := own_sta_keep S_cache K66 all0
          replace S_cs := own_sta_keep S_cs K66 all0
          replace Fc65 := Fc65.keep K66 nin0
          replace La := La.keep K66 all0
          replace Ca := Ca.keep K66 nin0
          replace A62 := A62.keep K66
          have hn66 : n0 ≤ T66.heap.size := Nat.le_trans hn65 K66.1
          have ne_b62_b66 : ¬ b62 = b66 := ne_exa A62 Ex66 (by decide)
          show Go _ _ _ _ _ T66 (mkF m 142 #[.val (.int p1), .val (.int p2), .val (.long p3), .second, .val (.int p4), .val (.int k0), .val (.int k1), .val (.int k2), .val (.int k3), .val pv54, .val pv55, .val pv56, .val pv57, .val (.long (j5 + j6)), .second, .val (.long (((j5 + j6) + j7) + j8)), .second, .val (.ref b62), .unset, .unset] [(.ref b66)])
          refine own_go (fun t k => XS.astore X66.here hx rfl (hb hby at_142) rfl rfl (l' := #[.val (.int p1), .val (.int p2), .val (.long p3), .second, .val (.int p4), .val (.int k0), .val (.int k1), .val (.int k2), .val (.int k3), .val pv54, .val pv55, .val pv56, .val pv57, .val (.long (j5 + j6)), .second, .val (.long (((j5 + j6) + j7) + j8)), .second, .val (.ref b62), .val (.ref b66), .unset]) rfl k) ?_
          show Go _ _ _ _ _ T66 (mkF m 144 #[.val (.int p1), .val (.int p2), .val (.long p3), .second, .val (.int p4), .val (.int k0), .val (.int k1), .val (.int k2), .val (.int k3), .val pv54, .val pv55, .val pv56, .val pv57, .val (.long (j5 + j6)), .second, .val (.long (((j5 + j6) + j7) + j8)), .second, .val (.ref b62), .val (.ref b66), .unset] [])
          refine own_go (fun t k => XS.aload X66.here hx rfl (hb hby at_144) rfl rfl k) ?_
          show Go _ _ _ _ _ T66 (mkF m 146 #[.val (.int p1), .val (.int p2), .val (.long p3), .second, .val (.int p4), .val (.int k0), .val (.int k1), .val (.int k2), .val (.int k3), .val pv54, .val pv55, .val pv56, .val pv57, .val (.long (j5 + j6)), .second, .val (.long (((j5 + j6) + j7) + j8)), .second, .val (.ref b62), .val (.ref b66), .unset] [(.ref b62)])
          refine own_go (fun t k => XS.aload X66.here hx rfl (hb hby at_146) rfl hr56 k) ?_
          show Go _ _ _ _ _ T66 (mkF m 148 #[.val (.int p1), .val (.int p2), .val (.long p3), .second, .val (.int p4), .val (.int k0), .val (.int k1), .val (.int k2), .val (.int k3), .val pv54, .val pv55, .val pv56, .val pv57, .val (.long (j5 + j6)), .second, .val (.long (((j5 + j6) + j7) + j8)), .second, .val (.ref b62), .val (.ref b66), .unset] [pv56, (.ref b62)])
          refine own_callV X66 hx hZ (y := (⟨"com/example/tallyfold/tallyfold/aggregate/Count", "add", "(Ljava/lang/Object;)V"⟩ : MethodName)) hown (hw _ (List.mem_of_getElem? (i := 13) rfl)) (hw _ (List.mem_of_getElem? (i := 14) rfl)) (hw _ (List.mem_of_getElem? (i := 16) rfl)) (hw _ (List.mem_of_getElem? (i := 15) rfl)) (hw _ (List.mem_of_getElem? (i := 17) rfl)) (hw _ (List.mem_of_getElem? (i := 6) rfl)) (by decide) (rm_add l Z a0 hw [] b62 pv56 (((0 : Int64) + (own_nz k0)) + (own_nz k1)) T66.heap n0 hn66 A62 Fc65 g_b62 hr56) rfl A62 (by rw [hml]; rfl) (argsL := [pv56]) (rest := []) rfl rfl (lenOf own_pd11 rfl) (W := 0) (Nat.le_of_eq rfl) (by decide) (by decide) (hb hby at_148) (by decide) (by decide) ?_
          intro v67 T67 L67 X67 q67
          obtain ⟨rfl, N67q, K67, Fc67⟩ := q67
          have N67 := Fr.app N66 N67q
          rw [hv56] at Fc67
          replace S_lc := own_sta_keep S_lc K67 (allS ⟨_, A62⟩ all0)
          replace S_high := own_sta_keep S_high K67 (allS ⟨_, A62⟩ all0)
          replace S_cache := own_sta_keep S_cache K67 (allS ⟨_, A62⟩ all0)
          replace S_cs := own_sta_keep S_cs K67 (allS ⟨_, A62⟩ all0)
          replace Fx66 := Fx66.keep K67 (ninS (fun q => ne_b62_b66 q.symm) nin0)
          replace La := La.keep K67 (allS g_b62 all0)
          replace Ca := Ca.keep K67 (ninS ne_ca_b62 nin0)
          replace A62 := A62.keep K67
          replace Ex66 := Ex66.keep K67
          have hn67 : n0 ≤ T67.heap.size := Nat.le_trans hn66 K67.1
          show Go _ _ _ _ _ T67 (mkF m 151 #[.val (.int p1), .val (.int p2), .val (.long p3), .second, .val (.int p4), .val (.int k0), .val (.int k1), .val (.int k2), .val (.int k3), .val pv54, .val pv55, .val pv56, .val pv57, .val (.long (j5 + j6)), .second, .val (.long (((j5 + j6) + j7) + j8)), .second, .val (.ref b62), .val (.ref b66), .unset] [])
          refine own_go (fun t k => XS.aload X67.here hx rfl (hb hby at_151) rfl rfl k) ?_
          show Go _ _ _ _ _ T67 (mkF m 153 #[.val (.int p1), .val (.int p2), .val (.long p3), .second, .val (.int p4), .val (.int k0), .val (.int k1), .val (.int k2), .val (.int k3), .val pv54, .val pv55, .val pv56, .val pv57, .val (.long (j5 + j6)), .second, .val (.long (((j5 + j6) + j7) + j8)), .second, .val (.ref b62), .val (.ref b66), .unset] [(.ref b62)])
          refine own_go (fun t k => XS.aload X67.here hx rfl (hb hby at_153) rfl hr57 k) ?_
          show Go _ _ _ _ _ T67 (mkF m 155 #[.val (.int p1), .val (.int p2), .val (.long p3), .second, .val (.int p4), .val (.int k0), .val (.int k1), .val (.int k2), .val (.int k3), .val pv54, .val pv55, .val pv56, .val pv57, .val (.long (j5 + j6)), .second, .val (.long (((j5 + j6) + j7) + j8)), .second, .val (.ref b62), .val (.ref b66), .unset] [pv57, (.ref b62)])
          refine own_callV X67 hx hZ (y := (⟨"com/example/tallyfold/tallyfold/aggregate/Count", "add", "(Ljava/lang/Object;)V"⟩ : MethodName)) hown (hw _ (List.mem_of_getElem? (i := 13) rfl)) (hw _ (List.mem_of_getElem? (i := 14) rfl)) (hw _ (List.mem_of_getElem? (i := 16) rfl)) (hw _ (List.mem_of_getElem? (i := 15) rfl)) (hw _ (List.mem_of_getElem? (i := 17) rfl)) (hw _ (List.mem_of_getElem? (i := 6) rfl)) (by decide) (rm_add l Z a0 hw [] b62 pv57 ((((0 : Int64) + (own_nz k0)) + (own_nz k1)) + (own_nz k2)) T67.heap n0 hn67 A62 Fc67 g_b62 hr57) rfl A62 (by rw [hml]; rfl) (argsL := [pv57]) (rest := []) rfl rfl (lenOf own_pd11 rfl) (W := 0) (Nat.le_of_eq rfl) (by decide) (by decide) (hb hby at_155) (by decide) (by decide) ?_
          intro v68 T68 L68 X68 q68
          obtain ⟨rfl, N68q, K68, Fc68⟩ := q68
          have N68 := Fr.app N67 N68q
          rw [hv57] at Fc68
          replace S_lc := own_sta_keep S_lc K68 (allS ⟨_, A62⟩ all0)
          replace S_high := own_sta_keep S_high K68 (allS ⟨_, A62⟩ all0)
          replace S_cache := own_sta_keep S_cache K68 (allS ⟨_, A62⟩ all0)
          replace S_cs := own_sta_keep S_cs K68 (allS ⟨_, A62⟩ all0)
          replace Fx66 := Fx66.keep K68 (ninS (fun q => ne_b62_b66 q.symm) nin0)
          replace La := La.keep K68 (allS g_b62 all0)
          replace Ca := Ca.keep K68 (ninS ne_ca_b62 nin0)
          replace A62 := A62.keep K68
          replace Ex66 := Ex66.keep K68
          have hn68 : n0 ≤ T68.heap.size := Nat.le_trans hn67 K68.1
          show Go _ _ _ _ _ T68 (mkF m 158 #[.val (.int p1), .val (.int p2), .val (.long p3), .second, .val (.int p4), .val (.int k0), .val (.int k1), .val (.int k2), .val (.int k3), .val pv54, .val pv55, .val pv56, .val pv57, .val (.long (j5 + j6)), .second, .val (.long (((j5 + j6) + j7) + j8)), .second, .val (.ref b62), .val (.ref b66), .unset] [])
          refine own_go (fun t k => XS.aload X68.here hx rfl (hb hby at_158) rfl rfl k) ?_
          show Go _ _ _ _ _ T68 (mkF m 160 #[.val (.int p1), .val (.int p2), .val (.long p3), .second, .val (.int p4), .val (.int k0), .val (.int k1), .val (.int k2), .val (.int k3), .val pv54, .val pv55, .val pv56, .val pv57, .val (.long (j5 + j6)), .second, .val (.long (((j5 + j6) + j7) + j8)), .second, .val (.ref b62), .val (.ref b66), .unset] [(.ref b62)])
          refine own_callV X68 hx hZ (y := (⟨"com/example/tallyfold/tallyfold/aggregate/Count", "result", "()Ljava/lang/Object;"⟩ : MethodName)) hown (hw _ (List.mem_of_getElem? (i := 18) rfl)) (hw _ (List.mem_of_getElem? (i := 19) rfl)) (hw _ (List.mem_of_getElem? (i := 21) rfl)) (hw _ (List.mem_of_getElem? (i := 20) rfl)) (hw _ (List.mem_of_getElem? (i := 22) rfl)) (hw _ (List.mem_of_getElem? (i := 6) rfl)) (by decide) (rm_res l Z a0 hw [] b62 (((((0 : Int64) + (own_nz k0)) + (own_nz k1)) + (own_nz k2)) + (own_nz k3)) la T68.heap n0 hn68 A62 Fc68 S_lc La) rfl A62 (by rw [hml]; rfl) (argsL := []) (rest := []) rfl rfl (lenOf own_pd12 rfl) (W := 0) (Nat.le_of_eq rfl) (by decide) (by decide) (hb hby at_160) (by decide) (by decide) ?_
          intro v69 T69 L69 X69 q69
          obtain ⟨b69, rfl, N69q, K69, Ex69, Fx69⟩ := q69
          have N69 := Fr.app N68 N69q
          replace S_lc := own_sta_keep S_lc K69 all0
          replace S_high := own_sta_keep S_high K69 all0
          replace S_cache := own_sta_keep S_cache K69 all0
          replace S_cs := own_sta_keep S_cs K69 all0
          replace Fx66 := Fx66.keep K69 nin0
          replace Fc68 := Fc68.keep K69 nin0
          replace La := La.keep K69 all0
          replace Ca := Ca.keep K69 nin0
          replace A62 := A62.keep K69
          replace Ex66 := Ex66.keep K69
          have hn69 : n0 ≤ T69.heap.size := Nat.le_trans hn68 K69.1
          have ne_b62_b69 : ¬ b62 = b69 := ne_exa A62 Ex69 (by decide)
          show Go _ _ _ _ _ T69 (mkF m 163 #[.val (.int p1), .val (.int p2), .val (.long p3), .second, .val (.int p4), .val (.int k0), .val (.int k1), .val (.int k2), .val (.int k3), .val pv54, .val pv55, .val pv56, .val pv57, .val (.long (j5 + j6)), .second, .val (.long (((j5 + j6) + j7) + j8)), .second, .val (.ref b62), .val (.ref b66), .unset] [(.ref b69)])
          refine own_go (fun t k => XS.astore X69.here hx rfl (hb hby at_163) rfl rfl (l' := #[.val (.int p1), .val (.int p2), .val (.long p3), .second, .val (.int p4), .val (.int k0), .val (.int k1), .val (.int k2), .val (.int k3), .val pv54, .val pv55, .val pv56, .val pv57, .val (.long (j5 + j6)), .second, .val (.long (((j5 + j6) + j7) + j8)), .second, .val (.ref b62), .val (.ref b66), .val (.ref b69)]) rfl k) ?_
          have hl70 : (lcmpW (((0 : Int64) + (own_nz k0)) + (own_nz k1)) (j5 + j6)) = (0 : Int32) := (lw_eq _ _).mpr (by rw [h_j5, h_j6, Int64.zero_add])
          have hl71 : (lcmpW (((((0 : Int64) + (own_nz k0)) + (own_nz k1)) + (own_nz k2)) + (own_nz k3)) (((j5 + j6) + j7) + j8)) = (0 : Int32) := (lw_eq _ _).mpr (by rw [h_j5, h_j6, h_j7, h_j8, Int64.zero_add])
          show Go _ _ _ _ _ T69 (mkF m 165 #[.val (.int p1), .val (.int p2), .val (.long p3), .second, .val (.int p4), .val (.int k0), .val (.int k1), .val (.int k2), .val (.int k3), .val pv54, .val pv55, .val pv56, .val pv57, .val (.long (j5 + j6)), .second, .val (.long (((j5 + j6) + j7) + j8)), .second, .val (.ref b62), .val (.ref b66), .val (.ref b69)] [])
          refine own_go (fun t k => XS.aload X69.here hx rfl (hb hby at_165) rfl rfl k) ?_
          show Go _ _ _ _ _ T69 (mkF m 167 #[.val (.int p1), .val (.int p2), .val (.long p3), .second, .val (.int p4), .val (.int k0), .val (.int k1), .val (.int k2), .val (.int k3), .val pv54, .val pv55, .val pv56, .val pv57, .val (.long (j5 + j6)), .second, .val (.long (((j5 + j6) + j7) + j8)), .second, .val (.ref b62), .val (.ref b66), .val (.ref b69)] [(.ref b66)])
          refine own_go (fun t k => XS.lload X69.here hx rfl (hb hby at_167) rfl k) ?_
          show Go _ _ _ _ _ T69 (mkF m 169 #[.val (.int p1), .val (.int p2), .val (.long p3), .second, .val (.int p4), .val (.int k0), .val (.int k1), .val (.int k2), .val (.int k3), .val pv54, .val pv55, .val pv56, .val pv57, .val (.long (j5 + j6)), .second, .val (.long (((j5 + j6) + j7) + j8)), .second, .val (.ref b62), .val (.ref b66), .val (.ref b69)] [(.long (j5 + j6)), (.ref b66)])
          refine own_callS X69 hx hZ (y := (⟨"com/example/tallyfold/tallyfold/aggregate/CountAddPinLaw", "isCount", "(Ljava/lang/Object;J)Z"⟩ : MethodName)) hown (hw _ (List.mem_of_getElem? (i := 33) rfl)) (hw _ (List.mem_of_getElem? (i := 34) rfl)) (hw _ (List.mem_of_getElem? (i := 2) rfl)) (hw _ (List.mem_of_getElem? (i := 35) rfl)) (by decide) (rm_ic l Z a0 hw [] b66 (j5 + j6) (((0 : Int64) + (own_nz k0)) + (own_nz k1)) (1 : Int32) T69.heap n0 hn69 Ex66 Fx66 (by rw [own_f_rm_ic, if_pos hl70]; try first | rfl | decide)) rfl (by rw [hml]; rfl) (argsL := [(.ref b66), (.long (j5 + j6))]) (rest := []) rfl rfl (lenOf own_pd13 rfl) (W := 0) (Nat.le_of_eq rfl) (by decide) (by decide) (hb hby at_169) (by decide) (by decide) ?_
          intro v72 T72 L72 X72 q72
          obtain ⟨rfl, N72q, e72⟩ := q72
          have N72 := Fr.app N69 N72q
          show Go _ _ _ _ _ T72 (mkF m 172 #[.val (.int p1), .val (.int p2), .val (.long p3), .second, .val (.int p4), .val (.int k0), .val (.int k1), .val (.int k2), .val (.int k3), .val pv54, .val pv55, .val pv56, .val pv57, .val (.long (j5 + j6)), .second, .val (.long (((j5 + j6) + j7) + j8)), .second, .val (.ref b62), .val (.ref b66), .val (.ref b69)] [(.int (1 : Int32))])
          refine own_go (fun t k => XS.ifNo X72.here hx rfl (hb hby at_172) rfl (by decide) k) ?_
          show Go _ _ _ _ _ T72 (mkF m 175 #[.val (.int p1), .val (.int p2), .val (.long p3), .second, .val (.int p4), .val (.int k0), .val (.int k1), .val (.int k2), .val (.int k3), .val pv54, .val pv55, .val pv56, .val pv57, .val (.long (j5 + j6)), .second, .val (.long (((j5 + j6) + j7) + j8)), .second, .val (.ref b62), .val (.ref b66), .val (.ref b69)] [])
          refine own_go (fun t k => XS.aload X72.here hx rfl (hb hby at_175) rfl rfl k) ?_
          show Go _ _ _ _ _ T72 (mkF m 177 #[.val (.int p1), .val (.int p2), .val (.long p3), .second, .val (.int p4), .val (.int k0), .val (.int k1), .val (.int k2), .val (.int k3), .val pv54, .val pv55, .val pv56, .val pv57, .val (.long (j5 + j6)), .second, .val (.long (((j5 + j6) + j7) + j8)), .second, .val (.ref b62), .val (.ref b66), .val (.ref b69)] [(.ref b69)])
          refine own_go (fun t k => XS.lload X72.here hx rfl (hb hby at_177) rfl k) ?_
          show Go _ _ _ _ _ T72 (mkF m 179 #[.val (.int p1), .val (.int p2), .val (.long p3), .second, .val (.int p4), .val (.int k0), .val (.int k1), .val (.int k2), .val (.int k3), .val pv54, .val pv55, .val pv56, .val pv57, .val (.long (j5 + j6)), .second, .val (.long (((j5 + j6) + j7) + j8)), .second, .val (.ref b62), .val (.ref b66), .val (.ref b69)] [(.long (((j5 + j6) + j7) + j8)), (.ref b69)])
          refine own_callS X72 hx hZ (y := (⟨"com/example/tallyfold/tallyfold/aggregate/CountAddPinLaw", "isCount", "(Ljava/lang/Object;J)Z"⟩ : MethodName)) hown (hw _ (List.mem_of_getElem? (i := 33) rfl)) (hw _ (List.mem_of_getElem? (i := 34) rfl)) (hw _ (List.mem_of_getElem? (i := 2) rfl)) (hw _ (List.mem_of_getElem? (i := 35) rfl)) (by decide) (rm_ic l Z a0 hw [] b69 (((j5 + j6) + j7) + j8) (((((0 : Int64) + (own_nz k0)) + (own_nz k1)) + (own_nz k2)) + (own_nz k3)) (1 : Int32) T69.heap n0 hn69 Ex69 Fx69 (by rw [own_f_rm_ic, if_pos hl71]; try first | rfl | decide)) e72 (by rw [hml]; rfl) (argsL := [(.ref b69), (.long (((j5 + j6) + j7) + j8))]) (rest := []) rfl rfl (lenOf own_pd13 rfl) (W := 0) (Nat.le_of_eq rfl) (by decide) (by decide) (hb hby at_179) (by decide) (by decide) ?_
          intro v73 T73 L73 X73 q73
          obtain ⟨rfl, N73q, e73⟩ := q73
          have N73 := Fr.app N72 N73q
          show Go _ _ _ _ _ T73 (mkF m 182 #[.val (.int p1), .val (.int p2), .val (.long p3), .second, .val (.int p4), .val (.int k0), .val (.int k1), .val (.int k2), .val (.int k3), .val pv54, .val pv55, .val pv56, .val pv57, .val (.long (j5 + j6)), .second, .val (.long (((j5 + j6) + j7) + j8)), .second, .val (.ref b62), .val (.ref b66), .val (.ref b69)] [(.int (1 : Int32))])
          refine own_go (fun t k => XS.ifNo X73.here hx rfl (hb hby at_182) rfl (by decide) k) ?_
          show Go _ _ _ _ _ T73 (mkF m 185 #[.val (.int p1), .val (.int p2), .val (.long p3), .second, .val (.int p4), .val (.int k0), .val (.int k1), .val (.int k2), .val (.int k3), .val pv54, .val pv55, .val pv56, .val pv57, .val (.long (j5 + j6)), .second, .val (.long (((j5 + j6) + j7) + j8)), .second, .val (.ref b62), .val (.ref b66), .val (.ref b69)] [])
          refine own_go (fun t k => XS.iconst X73.here hx rfl (hb hby at_185) k) ?_
          show Go _ _ _ _ _ T73 (mkF m 186 #[.val (.int p1), .val (.int p2), .val (.long p3), .second, .val (.int p4), .val (.int k0), .val (.int k1), .val (.int k2), .val (.int k3), .val pv54, .val pv55, .val pv56, .val pv57, .val (.long (j5 + j6)), .second, .val (.long (((j5 + j6) + j7) + j8)), .second, .val (.ref b62), .val (.ref b66), .val (.ref b69)] [(.int (1 : Int32))])
          refine own_go (fun t k => XS.goto X73.here hx rfl (pc0 := 186) (pc' := 190) rfl (hb hby at_186) (by decide) (by decide) k) ?_
          show Go _ _ _ _ _ T73 (mkF m 190 #[.val (.int p1), .val (.int p2), .val (.long p3), .second, .val (.int p4), .val (.int k0), .val (.int k1), .val (.int k2), .val (.int k3), .val pv54, .val pv55, .val pv56, .val pv57, .val (.long (j5 + j6)), .second, .val (.long (((j5 + j6) + j7) + j8)), .second, .val (.ref b62), .val (.ref b66), .val (.ref b69)] [(.int (1 : Int32))])
          refine own_retN X73 hx (own_lvN X73 hlk (by decide) (by decide)) (t := .boolean) hret (by simp) (hb hby at_190) ?_
          exact ⟨rfl, N73⟩
        show Go _ _ _ _ _ T57 (mkF m 103 #[.val (.int p1), .val (.int p2), .val (.long p3), .second, .val (.int p4), .val (.int k0), .val (.int k1), .val (.int k2), .val (.int k3), .val pv54, .val pv55, .val pv56, .val pv57, .val (.long (j5 + j6)), .second, .unset, .unset, .unset, .unset, .unset] [(.int k3), (.long ((j5 + j6) + j7))])
        refine own_ifP (k3 = (0 : Int32)) X57 hx (hb hby at_103) (own_eq _ _) (by decide) (by decide) (pc' := 110) (fun hc74 => ?_) (fun hc74 => ?_)
        · skip
          show Go _ _ _ _ _ T57 (mkF m 110 #[.val (.int p1), .val (.int p2), .val (.long p3), .second, .val (.int p4), .val (.int k0), .val (.int k1), .val (.int k2), .val (.int k3), .val pv54, .val pv55, .val pv56, .val pv57, .val (.long (j5 + j6)), .second, .unset, .unset, .unset, .unset, .unset] [(.long ((j5 + j6) + j7))])
          refine own_go (fun t k => XS.lconst X57.here hx rfl (hb hby at_110) k) ?_
          show Go _ _ _ _ _ T57 (mkF m 111 #[.val (.int p1), .val (.int p2), .val (.long p3), .second, .val (.int p4), .val (.int k0), .val (.int k1), .val (.int k2), .val (.int k3), .val pv54, .val pv55, .val pv56, .val pv57, .val (.long (j5 + j6)), .second, .unset, .unset, .unset, .unset, .unset] [(.long (0 : Int64)), (.long ((j5 + j6) + j7))])
          exact J61 (0 : Int64) (by rw [own_nz]; first | rw [if_pos (by assumption)] | rw [if_neg (by assumption)])
        · skip
          show Go _ _ _ _ _ T57 (mkF m 106 #[.val (.int p1), .val (.int p2), .val (.long p3), .second, .val (.int p4), .val (.int k0), .val (.int k1), .val (.int k2), .val (.int k3), .val pv54, .val pv55, .val pv56, .val pv57, .val (.long (j5 + j6)), .second, .unset, .unset, .unset, .unset, .unset] [(.long ((j5 + j6) + j7))])
          refine own_go (fun t k => XS.lconst X57.here hx rfl (hb hby at_106) k) ?_
          show Go _ _ _ _ _ T57 (mkF m 107 #[.val (.int p1), .val (.int p2), .val (.long p3), .second, .val (.int p4), .val (.int k0), .val (.int k1), .val (.int k2), .val (.int k3), .val pv54, .val pv55, .val pv56, .val pv57, .val (.long (j5 + j6)), .second, .unset, .unset, .unset, .unset, .unset] [(.long (1 : Int64)), (.long ((j5 + j6) + j7))])
          refine own_go (fun t k => XS.goto X57.here hx rfl (pc0 := 107) (pc' := 111) rfl (hb hby at_107) (by decide) (by decide) k) ?_
          show Go _ _ _ _ _ T57 (mkF m 111 #[.val (.int p1), .val (.int p2), .val (.long p3), .second, .val (.int p4), .val (.int k0), .val (.int k1), .val (.int k2), .val (.int k3), .val pv54, .val pv55, .val pv56, .val pv57, .val (.long (j5 + j6)), .second, .unset, .unset, .unset, .unset, .unset] [(.long (1 : Int64)), (.long ((j5 + j6) + j7))])
          exact J61 (1 : Int64) (by rw [own_nz]; first | rw [if_pos (by assumption)] | rw [if_neg (by assumption)])
      show Go _ _ _ _ _ T57 (mkF m 92 #[.val (.int p1), .val (.int p2), .val (.long p3), .second, .val (.int p4), .val (.int k0), .val (.int k1), .val (.int k2), .val (.int k3), .val pv54, .val pv55, .val pv56, .val pv57, .val (.long (j5 + j6)), .second, .unset, .unset, .unset, .unset, .unset] [(.int k2), (.long (j5 + j6))])
      refine own_ifP (k2 = (0 : Int32)) X57 hx (hb hby at_92) (own_eq _ _) (by decide) (by decide) (pc' := 99) (fun hc75 => ?_) (fun hc75 => ?_)
      · skip
        show Go _ _ _ _ _ T57 (mkF m 99 #[.val (.int p1), .val (.int p2), .val (.long p3), .second, .val (.int p4), .val (.int k0), .val (.int k1), .val (.int k2), .val (.int k3), .val pv54, .val pv55, .val pv56, .val pv57, .val (.long (j5 + j6)), .second, .unset, .unset, .unset, .unset, .unset] [(.long (j5 + j6))])
        refine own_go (fun t k => XS.lconst X57.here hx rfl (hb hby at_99) k) ?_
        show Go _ _ _ _ _ T57 (mkF m 100 #[.val (.int p1), .val (.int p2), .val (.long p3), .second, .val (.int p4), .val (.int k0), .val (.int k1), .val (.int k2), .val (.int k3), .val pv54, .val pv55, .val pv56, .val pv57, .val (.long (j5 + j6)), .second, .unset, .unset, .unset, .unset, .unset] [(.long (0 : Int64)), (.long (j5 + j6))])
        exact J60 (0 : Int64) (by rw [own_nz]; first | rw [if_pos (by assumption)] | rw [if_neg (by assumption)])
      · skip
        show Go _ _ _ _ _ T57 (mkF m 95 #[.val (.int p1), .val (.int p2), .val (.long p3), .second, .val (.int p4), .val (.int k0), .val (.int k1), .val (.int k2), .val (.int k3), .val pv54, .val pv55, .val pv56, .val pv57, .val (.long (j5 + j6)), .second, .unset, .unset, .unset, .unset, .unset] [(.long (j5 + j6))])
        refine own_go (fun t k => XS.lconst X57.here hx rfl (hb hby at_95) k) ?_
        show Go _ _ _ _ _ T57 (mkF m 96 #[.val (.int p1), .val (.int p2), .val (.long p3), .second, .val (.int p4), .val (.int k0), .val (.int k1), .val (.int k2), .val (.int k3), .val pv54, .val pv55, .val pv56, .val pv57, .val (.long (j5 + j6)), .second, .unset, .unset, .unset, .unset, .unset] [(.long (1 : Int64)), (.long (j5 + j6))])
        refine own_go (fun t k => XS.goto X57.here hx rfl (pc0 := 96) (pc' := 100) rfl (hb hby at_96) (by decide) (by decide) k) ?_
        show Go _ _ _ _ _ T57 (mkF m 100 #[.val (.int p1), .val (.int p2), .val (.long p3), .second, .val (.int p4), .val (.int k0), .val (.int k1), .val (.int k2), .val (.int k3), .val pv54, .val pv55, .val pv56, .val pv57, .val (.long (j5 + j6)), .second, .unset, .unset, .unset, .unset, .unset] [(.long (1 : Int64)), (.long (j5 + j6))])
        exact J60 (1 : Int64) (by rw [own_nz]; first | rw [if_pos (by assumption)] | rw [if_neg (by assumption)])
    show Go _ _ _ _ _ T57 (mkF m 77 #[.val (.int p1), .val (.int p2), .val (.long p3), .second, .val (.int p4), .val (.int k0), .val (.int k1), .val (.int k2), .val (.int k3), .val pv54, .val pv55, .val pv56, .val pv57, .unset, .unset, .unset, .unset, .unset, .unset, .unset] [(.int k1), (.long j5)])
    refine own_ifP (k1 = (0 : Int32)) X57 hx (hb hby at_77) (own_eq _ _) (by decide) (by decide) (pc' := 84) (fun hc76 => ?_) (fun hc76 => ?_)
    · skip
      show Go _ _ _ _ _ T57 (mkF m 84 #[.val (.int p1), .val (.int p2), .val (.long p3), .second, .val (.int p4), .val (.int k0), .val (.int k1), .val (.int k2), .val (.int k3), .val pv54, .val pv55, .val pv56, .val pv57, .unset, .unset, .unset, .unset, .unset, .unset, .unset] [(.long j5)])
      refine own_go (fun t k => XS.lconst X57.here hx rfl (hb hby at_84) k) ?_
      show Go _ _ _ _ _ T57 (mkF m 85 #[.val (.int p1), .val (.int p2), .val (.long p3), .second, .val (.int p4), .val (.int k0), .val (.int k1), .val (.int k2), .val (.int k3), .val pv54, .val pv55, .val pv56, .val pv57, .unset, .unset, .unset, .unset, .unset, .unset, .unset] [(.long (0 : Int64)), (.long j5)])
      exact J59 (0 : Int64) (by rw [own_nz]; first | rw [if_pos (by assumption)] | rw [if_neg (by assumption)])
    · skip
      show Go _ _ _ _ _ T57 (mkF m 80 #[.val (.int p1), .val (.int p2), .val (.long p3), .second, .val (.int p4), .val (.int k0), .val (.int k1), .val (.int k2), .val (.int k3), .val pv54, .val pv55, .val pv56, .val pv57, .unset, .unset, .unset, .unset, .unset, .unset, .unset] [(.long j5)])
      refine own_go (fun t k => XS.lconst X57.here hx rfl (hb hby at_80) k) ?_
      show Go _ _ _ _ _ T57 (mkF m 81 #[.val (.int p1), .val (.int p2), .val (.long p3), .second, .val (.int p4), .val (.int k0), .val (.int k1), .val (.int k2), .val (.int k3), .val pv54, .val pv55, .val pv56, .val pv57, .unset, .unset, .unset, .unset, .unset, .unset, .unset] [(.long (1 : Int64)), (.long j5)])
      refine own_go (fun t k => XS.goto X57.here hx rfl (pc0 := 81) (pc' := 85) rfl (hb hby at_81) (by decide) (by decide) k) ?_
      show Go _ _ _ _ _ T57 (mkF m 85 #[.val (.int p1), .val (.int p2), .val (.long p3), .second, .val (.int p4), .val (.int k0), .val (.int k1), .val (.int k2), .val (.int k3), .val pv54, .val pv55, .val pv56, .val pv57, .unset, .unset, .unset, .unset, .unset, .unset, .unset] [(.long (1 : Int64)), (.long j5)])
      exact J59 (1 : Int64) (by rw [own_nz]; first | rw [if_pos (by assumption)] | rw [if_neg (by assumption)])
  show Go _ _ _ _ _ T57 (mkF m 67 #[.val (.int p1), .val (.int p2), .val (.long p3), .second, .val (.int p4), .val (.int k0), .val (.int k1), .val (.int k2), .val (.int k3), .val pv54, .val pv55, .val pv56, .val pv57, .unset, .unset, .unset, .unset, .unset, .unset, .unset] [(.int k0)])
  refine own_ifP (k0 = (0 : Int32)) X57 hx (hb hby at_67) (own_eq _ _) (by decide) (by decide) (pc' := 74) (fun hc77 => ?_) (fun hc77 => ?_)
  · skip
    show Go _ _ _ _ _ T57 (mkF m 74 #[.val (.int p1), .val (.int p2), .val (.long p3), .second, .val (.int p4), .val (.int k0), .val (.int k1), .val (.int k2), .val (.int k3), .val pv54, .val pv55, .val pv56, .val pv57, .unset, .unset, .unset, .unset, .unset, .unset, .unset] [])
    refine own_go (fun t k => XS.lconst X57.here hx rfl (hb hby at_74) k) ?_
    show Go _ _ _ _ _ T57 (mkF m 75 #[.val (.int p1), .val (.int p2), .val (.long p3), .second, .val (.int p4), .val (.int k0), .val (.int k1), .val (.int k2), .val (.int k3), .val pv54, .val pv55, .val pv56, .val pv57, .unset, .unset, .unset, .unset, .unset, .unset, .unset] [(.long (0 : Int64))])
    exact J58 (0 : Int64) (by rw [own_nz]; first | rw [if_pos (by assumption)] | rw [if_neg (by assumption)])
  · skip
    show Go _ _ _ _ _ T57 (mkF m 70 #[.val (.int p1), .val (.int p2), .val (.long p3), .second, .val (.int p4), .val (.int k0), .val (.int k1), .val (.int k2), .val (.int k3), .val pv54, .val pv55, .val pv56, .val pv57, .unset, .unset, .unset, .unset, .unset, .unset, .unset] [])
    refine own_go (fun t k => XS.lconst X57.here hx rfl (hb hby at_70) k) ?_
    show Go _ _ _ _ _ T57 (mkF m 71 #[.val (.int p1), .val (.int p2), .val (.long p3), .second, .val (.int p4), .val (.int k0), .val (.int k1), .val (.int k2), .val (.int k3), .val pv54, .val pv55, .val pv56, .val pv57, .unset, .unset, .unset, .unset, .unset, .unset, .unset] [(.long (1 : Int64))])
    refine own_go (fun t k => XS.goto X57.here hx rfl (pc0 := 71) (pc' := 75) rfl (hb hby at_71) (by decide) (by decide) k) ?_
    show Go _ _ _ _ _ T57 (mkF m 75 #[.val (.int p1), .val (.int p2), .val (.long p3), .second, .val (.int p4), .val (.int k0), .val (.int k1), .val (.int k2), .val (.int k3), .val pv54, .val pv55, .val pv56, .val pv57, .unset, .unset, .unset, .unset, .unset, .unset, .unset] [(.long (1 : Int64))])
    exact J58 (1 : Int64) (by rw [own_nz]; first | rw [if_pos (by assumption)] | rw [if_neg (by assumption)])
set_option maxRecDepth 65536 in
set_option maxHeartbeats 40000000 in
theorem comes_1 {Post : Tables → Env → Array Value → State → Outcome → State → Prop} (hpost : ∀ tb e args s v u, (limb_1_1.after args s (.returned v) u = true ∧ limb_1_2.after args s (.returned v) u = true ∧ True) → FrameEnd s (.returned v) u (Jvm.fieldLocs frame_1_writes args s ++ Jvm.arrayLocs frame_1_arrays args s ++ Jvm.staticLocs frame_1_statics s) 32 128 → Post tb e args s (.returned v) u) :
    ArmFor flags0 classFile x code maxLocals ret World_1 tables_1 room_1 Calls_1 rest_1 Pre_1 Post := by
  intro l hfl _ _ p e ha hc hk s m args below hf hA hF happ hP
  obtain ⟨hcalls, hrest, hpre⟩ := hP
  obtain ⟨-, -, -, hnamed, -, -, -, hat⟩ := (Spec.applies_iff hf).mp happ
  obtain ⟨hg, hn⟩ := and_e (Cond.before_iff.mp (show (Jvm.Cond.and given_1 narrow_1).before args s = true from hpre))
  obtain ⟨g1, g2⟩ := and_e hg
  obtain ⟨g3, g4⟩ := and_e g2
  obtain ⟨g5, g6⟩ := and_e g4
  obtain ⟨g7, g8⟩ := and_e g6
  obtain ⟨w0, w1, w2, w3, rfl⟩ : ∃ w0 w1 w2 w3 : Value, args = #[w0, w1, w2, w3] := by
    have hs : args.size = 4 := by simpa [Cond.value, given_1] using g1
    obtain ⟨L⟩ := args
    match L, hs with
    | [w0, w1, w2, w3], _ => exact ⟨w0, w1, w2, w3, rfl⟩
  have hw := fun d (hd : d ∈ tables_1) => atoms_spec (ws := Jvm.Cond.code x code maxLocals ret :: tables_1) hat d (List.mem_cons_of_mem _ hd)
  obtain ⟨hsets, hown0⟩ := atoms_of _ (rest_1_c_eq ▸ (show rest_1_c.before _ s = true from hrest))
  obtain ⟨i0, ei0⟩ := is_v g3
  obtain rfl : w0 = (.int i0) := Option.some.inj ei0
  obtain ⟨i1, ei1⟩ := is_v g5
  obtain rfl : w1 = (.int i1) := Option.some.inj ei1
  obtain ⟨i2, ei2⟩ := isL_v g7
  obtain rfl : w2 = (.long i2) := Option.some.inj ei2
  obtain ⟨i3, ei3⟩ := is_v g8
  obtain rfl : w3 = (.int i3) := Option.some.inj ei3
  obtain ⟨ca, eca⟩ := arr_v (Cond.before_iff.mp (hsets _ (List.mem_of_getElem? (i := 19) rfl)))
  have eh := own_high (Cond.before_iff.mp (hsets _ (List.mem_of_getElem? (i := 18) rfl)))
  have S_high := Sta.start eh (Or.inl (hsets _ (List.mem_of_getElem? (i := 16) rfl)))
  have S_cache := Sta.start eca (Or.inr ⟨(hw _ (List.mem_of_getElem? (i := 75) rfl)), (hsets _ (List.mem_of_getElem? (i := 17) rfl))⟩)
  have Ca : OwnCache s s.heap ca := own_cache eca (Cond.before_iff.mp (hsets _ (List.mem_of_getElem? (i := 19) rfl))) (Cond.before_iff.mp (hsets _ (List.mem_of_getElem? (i := 21) rfl))) (Cond.before_iff.mp (hsets _ (List.mem_of_getElem? (i := 22) rfl)))
  obtain ⟨la, ela⟩ := arr_v (Cond.before_iff.mp (hsets _ (List.mem_of_getElem? (i := 2) rfl)))
  have S_lc := Sta.start ela (Or.inl (hsets _ (List.mem_of_getElem? (i := 1) rfl)))
  have La : OwnLCache s s.heap.size s.heap la := own_lcache ela (Cond.before_iff.mp (hsets _ (List.mem_of_getElem? (i := 2) rfl))) (Cond.before_iff.mp (hsets _ (List.mem_of_getElem? (i := 4) rfl))) (Cond.before_iff.mp (hsets _ (List.mem_of_getElem? (i := 5) rfl)))
  obtain ⟨cs, ecs⟩ := is_v (Cond.before_iff.mp (hsets _ (List.mem_of_getElem? (i := 7) rfl)))
  have S_cs := Sta.start ecs (Or.inl (hsets _ (List.mem_of_getElem? (i := 6) rfl)))
  have hcs : ¬ cs = (0 : Int32) := own_nozero ecs (Cond.before_iff.mp (hsets _ (List.mem_of_getElem? (i := 8) rfl)))
  obtain ⟨n, o, h1, h2, h3, _, L, rfl, ⟨rfl, N⟩, hq⟩ := rm0 l s _ hw tables_1 i0 i1 i2 i3  ca la cs s.heap s.heap.size (Nat.le_refl _)  S_high S_cache Ca S_lc La S_cs hcs p e ha hc hk s m _ below hf ((Spec.applies_iff_loose hf).mp happ).1 ⟨rfl, State.Warmed39.refl s, rfl⟩ trivial
  refine ⟨n, _, h1, h2, h3, hpost _ _ _ _ _ _ ⟨Cond.after_iff.mpr rfl, Cond.after_iff.mpr (eq_i res_at (Term.int_eval (1)) rfl), trivial⟩ ⟨hq.1, hq.2.1, (hq.2.2.sift fun y hy => Or.inr (N y hy)).mono (by decide) (by decide)⟩⟩
theorem main_1_1 : Claimed_1_1 := comes_1 fun _ _ _ _ _ _ h hF => ⟨h.1, hF⟩
theorem main_1_2 : Claimed_1_2 := comes_1 fun _ _ _ _ _ _ h hF => ⟨h.2.1, hF⟩
end Jvm.Pilot.@@N@@
namespace Jvm.Pilot.@@N@@
open Jvm Jvm.ClassFile Sem Op Lib Jvm.Free Jvm.Stand Jvm.Pilot.@@N@@.Jvm.D
/-! MADE BY PROGRAM (witnessworld.py) out of the Statement's table words and the real class files: 25 classes; the members and pool entries that the words name. The judged class is class 1, her method 3. -/
namespace start1
open Jvm.ClassFile
def u (s : String) : CpInfo := .utf8 (stringToUtf16 s)
/-- a pool by its gaps: so many unusable entries, then the entry; so many at the end -/
def gap : Nat → List CpInfo → List CpInfo
  | 0, r => r
  | n + 1, r => .unusable :: gap n r
def poolList (es : List (Nat × CpInfo)) (last : Nat) : List CpInfo := es.foldr (fun e r => gap e.1 (e.2 :: r)) (gap last [])
def pool (es : List (Nat × CpInfo)) (last : Nat) : Array CpInfo := ⟨poolList es last⟩
def fileOf (pool : Array CpInfo) (this : Nat) (attrs : Array Attribute := #[]) (ms : Array MethodInfo := #[]) (fl : Nat := 33) (sup : Nat := 0) (ifs : Array Nat := #[]) (fds : Array FieldInfo := #[]) : ClassFile where
  minorVersion := 0
  majorVersion := 65
  constantPool := pool
  accessFlags := fl
  thisClass := this
  superClass := sup
  interfaces := ifs
  fields := fds
  methods := ms
  attributes := attrs
def plain (name : String) (sup : Option ClassId) : Class where
  name := name
  kind := .ordinary
  loader := none
  accessFlags := 33
  super := sup
  interfaces := #[]
  cf := none
  fields := #[]
  methods := #[]
  instanceTypes := #[]
  staticTypes := #[]
  resolved := #[]
  callSites := []
  init := .initialized
  statics := none
  mirror := none

def pool0 : Array CpInfo := pool [(5, u "<init>"), (0, u "()V"), (1, .class_ 10), (1, u "java/lang/Object")] 113

def k0c0 : Code := { maxStack := 0, maxLocals := 1, code := object_method_1_code, exceptionTable := #[], attributes := #[] }
def k0m0 : Method := { name := "<init>", desc := "()V", sig := { parameters := [], returnType := none }, accessFlags := 1, code := some k0c0 }
/-- java/lang/Object -/
def k0 : Class := { plain "java/lang/Object" none with
  accessFlags := 33
  interfaces := #[]
  cf := some (fileOf pool0 8 #[] #[{ accessFlags := 1, nameIndex := 5, descriptorIndex := 6, attributes := #[] }] 33 0 #[] #[])
  fields := #[]
  methods := #[k0m0]
  instanceTypes := #[]
  staticTypes := #[]
  resolved := Array.replicate 124 none
  statics := none }

def pool1 : Array CpInfo := pool [(2, .class_ 4), (0, .nameAndType 5 6), (0, u "java/lang/Object"), (0, u "<init>"), (0, u "()V"), (0, .methodref 8 9), (0, .class_ 10), (0, .nameAndType 11 12), (0, u "java/lang/Integer"), (0, u "valueOf"), (0, u "(I)Ljava/lang/Integer;"), (0, .methodref 14 15), (0, .class_ 16), (0, .nameAndType 11 17), (0, u "java/lang/Long"), (0, u "(J)Ljava/lang/Long;"), (0, .methodref 19 20), (0, .class_ 21), (0, .nameAndType 11 22), (0, u "java/lang/String"), (0, u "(C)Ljava/lang/String;"), (0, .methodref 14 24), (0, .nameAndType 25 26), (0, u "longValue"), (0, u "()J"), (0, .methodref 28 29), (0, .class_ 30), (0, .nameAndType 31 32), (0, u "com/example/tallyfold/tallyfold/aggregate/CountAddPinLaw"), (0, u "pick"), (0, u "(IIJ)Ljava/lang/Object;"), (0, .class_ 34), (0, u "com/example/tallyfold/tallyfold/aggregate/Count"), (0, .methodref 33 3), (0, .methodref 33 37), (0, .nameAndType 38 39), (0, u "add"), (0, u "(Ljava/lang/Object;)V"), (0, .methodref 33 41), (0, .nameAndType 42 43), (0, u "result"), (0, u "()Ljava/lang/Object;"), (0, .methodref 28 45), (0, .nameAndType 46 47), (0, u "isCount"), (0, u "(Ljava/lang/Object;J)Z"), (3, u "law"), (0, u "(IIJI)Z")] 2

def k1m0 : Method := { name := "<init>", desc := "()V", sig := { parameters := [], returnType := none }, accessFlags := 2, code := none }
def k1c1 : Code := { maxStack := 2, maxLocals := 4, code := method_2_code, exceptionTable := #[], attributes := #[] }
def k1m1 : Method := { name := "pick", desc := "(IIJ)Ljava/lang/Object;", sig := { parameters := [.int, .int, .long], returnType := some (.object "java/lang/Object") }, accessFlags := 10, code := some k1c1 }
def k1c2 : Code := { maxStack := 4, maxLocals := 3, code := method_3_code, exceptionTable := #[], attributes := #[] }
def k1m2 : Method := { name := "isCount", desc := "(Ljava/lang/Object;J)Z", sig := { parameters := [(.object "java/lang/Object"), .long], returnType := some .boolean }, accessFlags := 10, code := some k1c2 }
def k1c3 : Code := { maxStack := 4, maxLocals := 20, code := code, exceptionTable := #[], attributes := #[] }
def k1m3 : Method := { name := "law", desc := "(IIJI)Z", sig := { parameters := [.int, .int, .long, .int], returnType := some .boolean }, accessFlags := 9, code := some k1c3 }
/-- com/example/tallyfold/tallyfold/aggregate/CountAddPinLaw -/
def k1 : Class := { plain "com/example/tallyfold/tallyfold/aggregate/CountAddPinLaw" (some 0) with
  accessFlags := 49
  interfaces := #[]
  cf := some (fileOf pool1 28 #[] #[{ accessFlags := 2, nameIndex := 5, descriptorIndex := 6, attributes := #[] }, { accessFlags := 10, nameIndex := 31, descriptorIndex := 32, attributes := #[] }, { accessFlags := 10, nameIndex := 46, descriptorIndex := 47, attributes := #[] }, { accessFlags := 9, nameIndex := 51, descriptorIndex := 52, attributes := #[] }] 49 2 #[] #[])
  fields := #[]
  methods := #[k1m0, k1m1, k1m2, k1m3]
  instanceTypes := #[]
  staticTypes := #[]
  resolved := Array.replicate 55 none
  statics := none }

def pool2 : Array CpInfo := pool [(4, .class_ 6), (1, u "com/example/tallyfold/tallyfold/aggregate/Accumulator"), (16, .class_ 24), (0, u "java/lang/Object")] 35

/-- com/example/tallyfold/tallyfold/aggregate/Accumulator -/
def k2 : Class := { plain "com/example/tallyfold/tallyfold/aggregate/Accumulator" (some 0) with
  accessFlags := 1537
  interfaces := #[]
  cf := some (fileOf pool2 4 #[] #[] 1537 23 #[] #[])
  fields := #[]
  methods := #[]
  instanceTypes := #[]
  staticTypes := #[]
  resolved := Array.replicate 60 none
  statics := none }

def pool3 : Array CpInfo := pool [(1, .methodref 2 3), (0, .class_ 4), (0, .nameAndType 5 6), (0, u "java/lang/Object"), (0, u "<init>"), (0, u "()V"), (0, .fieldref 8 9), (0, .class_ 10), (0, .nameAndType 11 12), (0, u "com/example/tallyfold/tallyfold/aggregate/Count"), (0, u "count"), (0, u "J"), (12, .methodref 26 27), (0, .class_ 28), (0, .nameAndType 29 30), (0, u "java/lang/Long"), (0, u "valueOf"), (0, u "(J)Ljava/lang/Long;"), (0, .class_ 32), (0, u "com/example/tallyfold/tallyfold/aggregate/Accumulator"), (2, u "add"), (0, u "(Ljava/lang/Object;)V"), (13, u "result"), (0, u "()Ljava/lang/Object;")] 2

def k3c0 : Code := { maxStack := 1, maxLocals := 1, code := prog_3_method_1_code, exceptionTable := #[], attributes := #[] }
def k3m0 : Method := { name := "<init>", desc := "()V", sig := { parameters := [], returnType := none }, accessFlags := 0, code := some k3c0 }
def k3c1 : Code := { maxStack := 5, maxLocals := 2, code := prog_3_method_2_code, exceptionTable := #[], attributes := #[] }
def k3m1 : Method := { name := "add", desc := "(Ljava/lang/Object;)V", sig := { parameters := [(.object "java/lang/Object")], returnType := none }, accessFlags := 1, code := some k3c1 }
def k3c2 : Code := { maxStack := 2, maxLocals := 1, code := prog_3_method_8_code, exceptionTable := #[], attributes := #[] }
def k3m2 : Method := { name := "result", desc := "()Ljava/lang/Object;", sig := { parameters := [], returnType := some (.object "java/lang/Object") }, accessFlags := 1, code := some k3c2 }
/-- com/example/tallyfold/tallyfold/aggregate/Count -/
def k3 : Class := { plain "com/example/tallyfold/tallyfold/aggregate/Count" (some 0) with
  accessFlags := 48
  interfaces := #[2]
  cf := some (fileOf pool3 8 #[] #[{ accessFlags := 0, nameIndex := 5, descriptorIndex := 6, attributes := #[] }, { accessFlags := 1, nameIndex := 35, descriptorIndex := 36, attributes := #[] }, { accessFlags := 1, nameIndex := 50, descriptorIndex := 51, attributes := #[] }] 48 2 #[31] #[{ accessFlags := 2, nameIndex := 11, descriptorIndex := 12, attributes := #[] }])
  fields := #[{ name := "count", type := .long, accessFlags := 2, slot := 0, constantValue := 0 }]
  methods := #[k3m0, k3m1, k3m2]
  instanceTypes := #[.long]
  staticTypes := #[]
  resolved := Array.replicate 54 none
  statics := none }

def pool4 : Array CpInfo := pool [(1, .class_ 2), (0, u "java/io/Serializable"), (0, .class_ 4), (0, u "java/lang/Object")] 2

/-- java/io/Serializable -/
def k4 : Class := { plain "java/io/Serializable" (some 0) with
  accessFlags := 1537
  interfaces := #[]
  cf := some (fileOf pool4 1 #[] #[] 1537 3 #[] #[])
  fields := #[]
  methods := #[]
  instanceTypes := #[]
  staticTypes := #[]
  resolved := Array.replicate 7 none
  statics := none }

def pool5 : Array CpInfo := pool [(1, .methodref 2 3), (0, .class_ 4), (0, .nameAndType 5 6), (0, u "java/lang/Object"), (0, u "<init>"), (0, u "()V"), (1, .class_ 10), (1, u "java/lang/Number"), (2, .class_ 14), (0, u "java/io/Serializable"), (0, u "serialVersionUID"), (0, u "J")] 20

def k5c0 : Code := { maxStack := 1, maxLocals := 1, code := jdk_18_method_1_code, exceptionTable := #[], attributes := #[] }
def k5m0 : Method := { name := "<init>", desc := "()V", sig := { parameters := [], returnType := none }, accessFlags := 1, code := some k5c0 }
/-- java/lang/Number -/
def k5 : Class := { plain "java/lang/Number" (some 0) with
  accessFlags := 1057
  interfaces := #[4]
  cf := some (fileOf pool5 8 #[] #[{ accessFlags := 1, nameIndex := 5, descriptorIndex := 6, attributes := #[] }] 1057 2 #[13] #[{ accessFlags := 26, nameIndex := 15, descriptorIndex := 16, attributes := #[] }])
  fields := #[{ name := "serialVersionUID", type := .long, accessFlags := 26, slot := 0, constantValue := 0 }]
  methods := #[k5m0]
  instanceTypes := #[]
  staticTypes := #[.long]
  resolved := Array.replicate 37 none
  statics := none }

def pool6 : Array CpInfo := pool [(1, .class_ 2), (0, u "java/lang/Comparable"), (0, .class_ 4), (0, u "java/lang/Object")] 7

/-- java/lang/Comparable -/
def k6 : Class := { plain "java/lang/Comparable" (some 0) with
  accessFlags := 1537
  interfaces := #[]
  cf := some (fileOf pool6 1 #[] #[] 1537 3 #[] #[])
  fields := #[]
  methods := #[]
  instanceTypes := #[]
  staticTypes := #[]
  resolved := Array.replicate 12 none
  statics := none }

def pool7 : Array CpInfo := pool [(1, .class_ 2), (0, u "java/lang/constant/Constable"), (0, .class_ 4), (0, u "java/lang/Object")] 6

/-- java/lang/constant/Constable -/
def k7 : Class := { plain "java/lang/constant/Constable" (some 0) with
  accessFlags := 1537
  interfaces := #[]
  cf := some (fileOf pool7 1 #[] #[] 1537 3 #[] #[])
  fields := #[]
  methods := #[]
  instanceTypes := #[]
  staticTypes := #[]
  resolved := Array.replicate 11 none
  statics := none }

def pool8 : Array CpInfo := pool [(1, .class_ 2), (0, u "java/lang/constant/ConstantDesc"), (0, .class_ 4), (0, u "java/lang/Object")] 32

/-- java/lang/constant/ConstantDesc -/
def k8 : Class := { plain "java/lang/constant/ConstantDesc" (some 0) with
  accessFlags := 1537
  interfaces := #[]
  cf := some (fileOf pool8 1 #[] #[] 1537 3 #[] #[])
  fields := #[]
  methods := #[]
  instanceTypes := #[]
  staticTypes := #[]
  resolved := Array.replicate 37 none
  statics := none }

def pool9 : Array CpInfo := pool [(1, .class_ 2), (0, u "java/lang/Long"), (55, .nameAndType 59 60), (0, u "<init>"), (0, u "()V"), (24, u "valueOf"), (143, u "(J)Ljava/lang/Long;"), (0, .long 18446744073709551488), (1, .long 127), (1, .fieldref 235 236), (0, .class_ 237), (0, .nameAndType 238 239), (0, u "java/lang/Long$LongCache"), (0, u "cache"), (0, u "[Ljava/lang/Long;"), (0, .methodref 1 241), (0, .nameAndType 59 242), (0, u "(J)V"), (27, .methodref 271 58), (0, .class_ 272), (0, u "java/lang/Number"), (0, .fieldref 1 274), (0, .nameAndType 275 276), (0, u "value"), (0, u "J"), (5, u "longValue"), (0, u "()J"), (77, u "TYPE"), (0, u "Ljava/lang/Class;"), (0, .class_ 364), (0, u "java/lang/Comparable"), (0, .class_ 366), (0, u "java/lang/constant/Constable"), (0, .class_ 368), (0, u "java/lang/constant/ConstantDesc"), (0, u "MIN_VALUE"), (1, u "MAX_VALUE"), (4, u "SIZE"), (0, u "I"), (1, u "BYTES"), (1, u "serialVersionUID")] 142

def k9c0 : Code := { maxStack := 4, maxLocals := 3, code := jdk_35_method_24_code, exceptionTable := #[], attributes := #[] }
def k9m0 : Method := { name := "valueOf", desc := "(J)Ljava/lang/Long;", sig := { parameters := [.long], returnType := some (.object "java/lang/Long") }, accessFlags := 9, code := some k9c0 }
def k9c1 : Code := { maxStack := 3, maxLocals := 3, code := jdk_35_method_26_code, exceptionTable := #[], attributes := #[] }
def k9m1 : Method := { name := "<init>", desc := "(J)V", sig := { parameters := [.long], returnType := none }, accessFlags := 1, code := some k9c1 }
def k9c2 : Code := { maxStack := 2, maxLocals := 1, code := jdk_35_method_31_code, exceptionTable := #[], attributes := #[] }
def k9m2 : Method := { name := "longValue", desc := "()J", sig := { parameters := [], returnType := some .long }, accessFlags := 1, code := some k9c2 }
/-- java/lang/Long -/
def k9 : Class := { plain "java/lang/Long" (some 5) with
  accessFlags := 49
  interfaces := #[6, 7, 8]
  cf := some (fileOf pool9 1 #[.nestMembers #[235]] #[{ accessFlags := 9, nameIndex := 85, descriptorIndex := 229, attributes := #[] }, { accessFlags := 1, nameIndex := 59, descriptorIndex := 242, attributes := #[] }, { accessFlags := 1, nameIndex := 282, descriptorIndex := 283, attributes := #[] }] 49 271 #[363, 365, 367] #[{ accessFlags := 25, nameIndex := 369, descriptorIndex := 276, attributes := #[] }, { accessFlags := 25, nameIndex := 371, descriptorIndex := 276, attributes := #[] }, { accessFlags := 25, nameIndex := 361, descriptorIndex := 362, attributes := #[] }, { accessFlags := 18, nameIndex := 275, descriptorIndex := 276, attributes := #[] }, { accessFlags := 25, nameIndex := 376, descriptorIndex := 377, attributes := #[] }, { accessFlags := 25, nameIndex := 379, descriptorIndex := 377, attributes := #[] }, { accessFlags := 26, nameIndex := 381, descriptorIndex := 276, attributes := #[] }])
  fields := #[{ name := "MIN_VALUE", type := .long, accessFlags := 25, slot := 0, constantValue := 0 }, { name := "MAX_VALUE", type := .long, accessFlags := 25, slot := 1, constantValue := 0 }, { name := "TYPE", type := (.object "java/lang/Class"), accessFlags := 25, slot := 2, constantValue := 0 }, { name := "value", type := .long, accessFlags := 18, slot := 0, constantValue := 0 }, { name := "SIZE", type := .int, accessFlags := 25, slot := 3, constantValue := 0 }, { name := "BYTES", type := .int, accessFlags := 25, slot := 4, constantValue := 0 }, { name := "serialVersionUID", type := .long, accessFlags := 26, slot := 5, constantValue := 0 }]
  methods := #[k9m0, k9m1, k9m2]
  instanceTypes := #[.long]
  staticTypes := #[.long, .long, (.object "java/lang/Class"), .int, .int, .long]
  resolved := Array.replicate 524 none
  statics := none }

def pool10 : Array CpInfo := pool [(2, .class_ 4), (1, u "java/lang/Object"), (0, u "<init>"), (0, u "()V"), (0, .class_ 8), (0, u "java/lang/Long"), (7, .class_ 18), (1, u "java/lang/Long$LongCache"), (0, u "$assertionsDisabled"), (0, u "Z"), (8, u "archivedCache"), (0, u "[Ljava/lang/Long;"), (7, u "cache")] 24

def k10m0 : Method := { name := "<init>", desc := "()V", sig := { parameters := [], returnType := none }, accessFlags := 2, code := none }
/-- java/lang/Long$LongCache -/
def k10 : Class := { plain "java/lang/Long$LongCache" (some 0) with
  accessFlags := 48
  interfaces := #[]
  cf := some (fileOf pool10 16 #[.nestHost 7] #[{ accessFlags := 2, nameIndex := 5, descriptorIndex := 6, attributes := #[] }] 48 2 #[] #[{ accessFlags := 24, nameIndex := 38, descriptorIndex := 30, attributes := #[] }, { accessFlags := 8, nameIndex := 29, descriptorIndex := 30, attributes := #[] }, { accessFlags := 4120, nameIndex := 19, descriptorIndex := 20, attributes := #[] }])
  fields := #[{ name := "cache", type := (.array (.object "java/lang/Long")), accessFlags := 24, slot := 0, constantValue := 0 }, { name := "archivedCache", type := (.array (.object "java/lang/Long")), accessFlags := 8, slot := 1, constantValue := 0 }, { name := "$assertionsDisabled", type := .boolean, accessFlags := 4120, slot := 2, constantValue := 0 }]
  methods := #[k10m0]
  instanceTypes := #[]
  staticTypes := #[(.array (.object "java/lang/Long")), (.array (.object "java/lang/Long")), .boolean]
  resolved := Array.replicate 63 none
  statics := some 0 }

def pool11 : Array CpInfo := pool [(2, .class_ 4), (1, u "java/lang/CharSequence"), (42, .class_ 48), (0, u "java/lang/CharSequence$1CodePointIterator"), (10, .class_ 60), (0, u "java/lang/CharSequence$1CharIterator"), (5, .class_ 67), (0, u "java/lang/Object")] 63

/-- java/lang/CharSequence -/
def k11 : Class := { plain "java/lang/CharSequence" (some 0) with
  accessFlags := 1537
  interfaces := #[]
  cf := some (fileOf pool11 2 #[.nestMembers #[47, 59]] #[] 1537 66 #[] #[])
  fields := #[]
  methods := #[]
  instanceTypes := #[]
  staticTypes := #[]
  resolved := Array.replicate 131 none
  statics := none }

def pool12 : Array CpInfo := pool [(1, .methodref 2 3), (0, .class_ 4), (0, .nameAndType 5 6), (0, u "java/lang/Object"), (0, u "<init>"), (0, u "()V"), (2, .fieldref 10 11), (0, .class_ 12), (0, .nameAndType 13 14), (0, u "java/lang/String"), (0, u "value"), (0, u "[B"), (0, .fieldref 10 16), (0, .nameAndType 17 18), (0, u "coder"), (0, u "B"), (2, u "hash"), (0, u "I"), (2, u "hashIsZero"), (0, u "Z"), (11, .fieldref 10 39), (0, .nameAndType 40 26), (0, u "COMPACT_STRINGS"), (12, u "toBytes"), (53, .class_ 109), (1, u "java/lang/StringLatin1"), (99, .methodref 10 210), (0, .nameAndType 5 211), (0, u "([BB)V"), (157, u "(C)Z"), (205, .class_ 576), (0, u "java/lang/CharSequence"), (22, u "CASE_INSENSITIVE_ORDER"), (0, u "Ljava/util/Comparator;"), (181, u "valueOf"), (0, u "(C)Ljava/lang/String;"), (231, .methodref 107 1016), (0, .nameAndType 1017 369), (0, u "canEncode"), (0, .methodref 107 1019), (0, .nameAndType 53 1020), (0, u "(C)[B"), (80, u "serialPersistentFields"), (0, u "[Ljava/io/ObjectStreamField;"), (0, .class_ 1104), (0, u "java/lang/String$CaseInsensitiveComparator"), (1, .class_ 1107), (0, u "java/io/Serializable"), (0, .class_ 1109), (0, u "java/lang/Comparable"), (0, .class_ 1111), (0, u "java/lang/constant/Constable"), (0, .class_ 1113), (0, u "java/lang/constant/ConstantDesc"), (2, u "serialVersionUID"), (0, u "J"), (3, u "REPL"), (0, u "C"), (2, u "LATIN1"), (1, u "UTF16")] 323

def k12m0 : Method := { name := "<init>", desc := "()V", sig := { parameters := [], returnType := none }, accessFlags := 1, code := none }
def k12c1 : Code := { maxStack := 4, maxLocals := 1, code := jdk_42_method_139_code, exceptionTable := #[], attributes := #[] }
def k12m1 : Method := { name := "valueOf", desc := "(C)Ljava/lang/String;", sig := { parameters := [.char], returnType := some (.object "java/lang/String") }, accessFlags := 9, code := some k12c1 }
def k12c2 : Code := { maxStack := 2, maxLocals := 3, code := jdk_42_method_151_code, exceptionTable := #[], attributes := #[] }
def k12m2 : Method := { name := "<init>", desc := "([BB)V", sig := { parameters := [(.array .byte), .byte], returnType := none }, accessFlags := 0, code := some k12c2 }
/-- java/lang/String -/
def k12 : Class := { plain "java/lang/String" (some 0) with
  accessFlags := 49
  interfaces := #[4, 6, 11, 7, 8]
  cf := some (fileOf pool12 10 #[.nestMembers #[1103]] #[{ accessFlags := 1, nameIndex := 5, descriptorIndex := 6, attributes := #[] }, { accessFlags := 9, nameIndex := 782, descriptorIndex := 783, attributes := #[] }, { accessFlags := 0, nameIndex := 5, descriptorIndex := 211, attributes := #[] }] 49 2 #[1106, 1108, 575, 1110, 1112] #[{ accessFlags := 18, nameIndex := 13, descriptorIndex := 14, attributes := #[] }, { accessFlags := 18, nameIndex := 17, descriptorIndex := 18, attributes := #[] }, { accessFlags := 2, nameIndex := 21, descriptorIndex := 22, attributes := #[] }, { accessFlags := 2, nameIndex := 25, descriptorIndex := 26, attributes := #[] }, { accessFlags := 26, nameIndex := 1116, descriptorIndex := 1117, attributes := #[] }, { accessFlags := 24, nameIndex := 40, descriptorIndex := 26, attributes := #[] }, { accessFlags := 26, nameIndex := 1101, descriptorIndex := 1102, attributes := #[] }, { accessFlags := 26, nameIndex := 1121, descriptorIndex := 1122, attributes := #[] }, { accessFlags := 25, nameIndex := 599, descriptorIndex := 600, attributes := #[] }, { accessFlags := 24, nameIndex := 1125, descriptorIndex := 18, attributes := #[] }, { accessFlags := 24, nameIndex := 1127, descriptorIndex := 18, attributes := #[] }])
  fields := #[{ name := "value", type := (.array .byte), accessFlags := 18, slot := 0, constantValue := 0 }, { name := "coder", type := .byte, accessFlags := 18, slot := 1, constantValue := 0 }, { name := "hash", type := .int, accessFlags := 2, slot := 2, constantValue := 0 }, { name := "hashIsZero", type := .boolean, accessFlags := 2, slot := 3, constantValue := 0 }, { name := "serialVersionUID", type := .long, accessFlags := 26, slot := 0, constantValue := 0 }, { name := "COMPACT_STRINGS", type := .boolean, accessFlags := 24, slot := 1, constantValue := 0 }, { name := "serialPersistentFields", type := (.array (.object "java/io/ObjectStreamField")), accessFlags := 26, slot := 2, constantValue := 0 }, { name := "REPL", type := .char, accessFlags := 26, slot := 3, constantValue := 0 }, { name := "CASE_INSENSITIVE_ORDER", type := (.object "java/util/Comparator"), accessFlags := 25, slot := 4, constantValue := 0 }, { name := "LATIN1", type := .byte, accessFlags := 24, slot := 5, constantValue := 0 }, { name := "UTF16", type := .byte, accessFlags := 24, slot := 6, constantValue := 0 }]
  methods := #[k12m0, k12m1, k12m2]
  instanceTypes := #[(.array .byte), .byte, .int, .boolean]
  staticTypes := #[.long, .boolean, (.array (.object "java/io/ObjectStreamField")), .char, (.object "java/util/Comparator"), .byte, .byte]
  resolved := Array.replicate 1451 none
  statics := some 1 }

def pool13 : Array CpInfo := pool [(4, .class_ 6), (1, u "java/lang/Object"), (0, u "<init>"), (0, u "()V"), (5, .class_ 16), (1, u "java/lang/StringLatin1"), (73, u "canEncode"), (14, u "(C)Z"), (15, u "$assertionsDisabled"), (0, u "Z"), (98, .class_ 223), (1, u "java/lang/StringLatin1$LinesSpliterator"), (156, u "toBytes"), (1, u "(C)[B"), (7, .class_ 391), (0, u "java/lang/StringLatin1$CharsSpliterator")] 3

def k13m0 : Method := { name := "<init>", desc := "()V", sig := { parameters := [], returnType := none }, accessFlags := 0, code := none }
def k13c1 : Code := { maxStack := 2, maxLocals := 1, code := jdk_43_method_3_code, exceptionTable := #[], attributes := #[] }
def k13m1 : Method := { name := "canEncode", desc := "(C)Z", sig := { parameters := [.char], returnType := some .boolean }, accessFlags := 9, code := some k13c1 }
def k13c2 : Code := { maxStack := 4, maxLocals := 1, code := jdk_43_method_46_code, exceptionTable := #[], attributes := #[] }
def k13m2 : Method := { name := "toBytes", desc := "(C)[B", sig := { parameters := [.char], returnType := some (.array .byte) }, accessFlags := 9, code := some k13c2 }
/-- java/lang/StringLatin1 -/
def k13 : Class := { plain "java/lang/StringLatin1" (some 0) with
  accessFlags := 48
  interfaces := #[]
  cf := some (fileOf pool13 14 #[.nestMembers #[390, 221]] #[{ accessFlags := 0, nameIndex := 7, descriptorIndex := 8, attributes := #[] }, { accessFlags := 9, nameIndex := 90, descriptorIndex := 105, attributes := #[] }, { accessFlags := 9, nameIndex := 380, descriptorIndex := 382, attributes := #[] }] 48 4 #[] #[{ accessFlags := 4120, nameIndex := 121, descriptorIndex := 122, attributes := #[] }])
  fields := #[{ name := "$assertionsDisabled", type := .boolean, accessFlags := 4120, slot := 0, constantValue := 0 }]
  methods := #[k13m0, k13m1, k13m2]
  instanceTypes := #[]
  staticTypes := #[.boolean]
  resolved := Array.replicate 395 none
  statics := none }

def pool14 : Array CpInfo := pool [(1, .class_ 2), (0, u "java/lang/Integer"), (16, u "digits"), (0, u "[C"), (46, u "<init>"), (17, u "DigitOnes"), (0, u "[B"), (2, u "DigitTens"), (10, .nameAndType 67 101), (0, u "()V"), (85, u "valueOf"), (0, u "(I)Ljava/lang/Integer;"), (0, .class_ 190), (0, u "java/lang/Integer$IntegerCache"), (0, .fieldref 189 192), (0, .nameAndType 193 194), (0, u "high"), (0, u "I"), (0, .fieldref 189 196), (0, .nameAndType 197 198), (0, u "cache"), (0, u "[Ljava/lang/Integer;"), (0, .methodref 1 200), (0, .nameAndType 67 201), (0, u "(I)V"), (0, .methodref 203 100), (0, .class_ 204), (0, u "java/lang/Number"), (0, .fieldref 1 206), (0, .nameAndType 207 194), (0, u "value"), (94, u "TYPE"), (0, u "Ljava/lang/Class;"), (0, .class_ 305), (0, u "java/lang/Comparable"), (0, .class_ 307), (0, u "java/lang/constant/Constable"), (0, .class_ 309), (0, u "java/lang/constant/ConstantDesc"), (0, u "MIN_VALUE"), (1, u "MAX_VALUE"), (3, u "SIZE"), (1, u "BYTES"), (1, u "serialVersionUID"), (0, u "J")] 131

def k14c0 : Code := { maxStack := 3, maxLocals := 1, code := jdk_33_method_22_code, exceptionTable := #[], attributes := #[] }
def k14m0 : Method := { name := "valueOf", desc := "(I)Ljava/lang/Integer;", sig := { parameters := [.int], returnType := some (.object "java/lang/Integer") }, accessFlags := 9, code := some k14c0 }
def k14c1 : Code := { maxStack := 2, maxLocals := 2, code := jdk_33_method_23_code, exceptionTable := #[], attributes := #[] }
def k14m1 : Method := { name := "<init>", desc := "(I)V", sig := { parameters := [.int], returnType := none }, accessFlags := 1, code := some k14c1 }
/-- java/lang/Integer -/
def k14 : Class := { plain "java/lang/Integer" (some 5) with
  accessFlags := 49
  interfaces := #[6, 7, 8]
  cf := some (fileOf pool14 1 #[.nestMembers #[189]] #[{ accessFlags := 9, nameIndex := 187, descriptorIndex := 188, attributes := #[] }, { accessFlags := 1, nameIndex := 67, descriptorIndex := 201, attributes := #[] }] 49 203 #[304, 306, 308] #[{ accessFlags := 25, nameIndex := 310, descriptorIndex := 194, attributes := #[] }, { accessFlags := 25, nameIndex := 312, descriptorIndex := 194, attributes := #[] }, { accessFlags := 25, nameIndex := 302, descriptorIndex := 303, attributes := #[] }, { accessFlags := 24, nameIndex := 19, descriptorIndex := 20, attributes := #[] }, { accessFlags := 24, nameIndex := 89, descriptorIndex := 86, attributes := #[] }, { accessFlags := 24, nameIndex := 85, descriptorIndex := 86, attributes := #[] }, { accessFlags := 18, nameIndex := 207, descriptorIndex := 194, attributes := #[] }, { accessFlags := 25, nameIndex := 316, descriptorIndex := 194, attributes := #[] }, { accessFlags := 25, nameIndex := 318, descriptorIndex := 194, attributes := #[] }, { accessFlags := 26, nameIndex := 320, descriptorIndex := 321, attributes := #[] }])
  fields := #[{ name := "MIN_VALUE", type := .int, accessFlags := 25, slot := 0, constantValue := 0 }, { name := "MAX_VALUE", type := .int, accessFlags := 25, slot := 1, constantValue := 0 }, { name := "TYPE", type := (.object "java/lang/Class"), accessFlags := 25, slot := 2, constantValue := 0 }, { name := "digits", type := (.array .char), accessFlags := 24, slot := 3, constantValue := 0 }, { name := "DigitTens", type := (.array .byte), accessFlags := 24, slot := 4, constantValue := 0 }, { name := "DigitOnes", type := (.array .byte), accessFlags := 24, slot := 5, constantValue := 0 }, { name := "value", type := .int, accessFlags := 18, slot := 0, constantValue := 0 }, { name := "SIZE", type := .int, accessFlags := 25, slot := 6, constantValue := 0 }, { name := "BYTES", type := .int, accessFlags := 25, slot := 7, constantValue := 0 }, { name := "serialVersionUID", type := .long, accessFlags := 26, slot := 8, constantValue := 0 }]
  methods := #[k14m0, k14m1]
  instanceTypes := #[.int]
  staticTypes := #[.int, .int, (.object "java/lang/Class"), (.array .char), (.array .byte), (.array .byte), .int, .int, .long]
  resolved := Array.replicate 453 none
  statics := none }

def pool15 : Array CpInfo := pool [(2, .class_ 4), (1, u "java/lang/Object"), (0, u "<init>"), (0, u "()V"), (0, .class_ 8), (0, u "java/lang/Integer"), (7, .class_ 18), (1, u "java/lang/Integer$IntegerCache"), (0, u "$assertionsDisabled"), (0, u "Z"), (26, u "high"), (0, u "I"), (8, u "archivedCache"), (0, u "[Ljava/lang/Integer;"), (12, u "cache"), (0, u "low")] 27

def k15m0 : Method := { name := "<init>", desc := "()V", sig := { parameters := [], returnType := none }, accessFlags := 2, code := none }
/-- java/lang/Integer$IntegerCache -/
def k15 : Class := { plain "java/lang/Integer$IntegerCache" (some 0) with
  accessFlags := 48
  interfaces := #[]
  cf := some (fileOf pool15 16 #[.nestHost 7] #[{ accessFlags := 2, nameIndex := 5, descriptorIndex := 6, attributes := #[] }] 48 2 #[] #[{ accessFlags := 24, nameIndex := 72, descriptorIndex := 48, attributes := #[] }, { accessFlags := 24, nameIndex := 47, descriptorIndex := 48, attributes := #[] }, { accessFlags := 24, nameIndex := 71, descriptorIndex := 58, attributes := #[] }, { accessFlags := 8, nameIndex := 57, descriptorIndex := 58, attributes := #[] }, { accessFlags := 4120, nameIndex := 19, descriptorIndex := 20, attributes := #[] }])
  fields := #[{ name := "low", type := .int, accessFlags := 24, slot := 0, constantValue := 0 }, { name := "high", type := .int, accessFlags := 24, slot := 1, constantValue := 0 }, { name := "cache", type := (.array (.object "java/lang/Integer")), accessFlags := 24, slot := 2, constantValue := 0 }, { name := "archivedCache", type := (.array (.object "java/lang/Integer")), accessFlags := 8, slot := 3, constantValue := 0 }, { name := "$assertionsDisabled", type := .boolean, accessFlags := 4120, slot := 4, constantValue := 0 }]
  methods := #[k15m0]
  instanceTypes := #[]
  staticTypes := #[.int, .int, (.array (.object "java/lang/Integer")), (.array (.object "java/lang/Integer")), .boolean]
  resolved := Array.replicate 100 none
  statics := some 2 }

def pool16 : Array CpInfo := pool [(2, .class_ 4), (1, u "java/lang/Object"), (0, u "<init>"), (0, u "()V"), (17, .class_ 26), (1, u "jdk/internal/util/Preconditions"), (28, .class_ 56), (0, u "jdk/internal/util/Preconditions$4"), (57, .class_ 115), (0, u "jdk/internal/util/Preconditions$1"), (7, u "SIOOBE_FORMATTER"), (0, u "Ljava/util/function/BiFunction;"), (0, .class_ 126), (0, u "jdk/internal/util/Preconditions$2"), (3, u "AIOOBE_FORMATTER"), (0, .class_ 132), (0, u "jdk/internal/util/Preconditions$3"), (3, u "IOOBE_FORMATTER")] 57

def k16m0 : Method := { name := "<init>", desc := "()V", sig := { parameters := [], returnType := none }, accessFlags := 1, code := none }
/-- jdk/internal/util/Preconditions -/
def k16 : Class := { plain "jdk/internal/util/Preconditions" (some 0) with
  accessFlags := 33
  interfaces := #[]
  cf := some (fileOf pool16 24 #[.nestMembers #[55, 131, 125, 114]] #[{ accessFlags := 1, nameIndex := 5, descriptorIndex := 6, attributes := #[] }] 33 2 #[] #[{ accessFlags := 25, nameIndex := 123, descriptorIndex := 124, attributes := #[] }, { accessFlags := 25, nameIndex := 130, descriptorIndex := 124, attributes := #[] }, { accessFlags := 25, nameIndex := 136, descriptorIndex := 124, attributes := #[] }])
  fields := #[{ name := "SIOOBE_FORMATTER", type := (.object "java/util/function/BiFunction"), accessFlags := 25, slot := 0, constantValue := 0 }, { name := "AIOOBE_FORMATTER", type := (.object "java/util/function/BiFunction"), accessFlags := 25, slot := 1, constantValue := 0 }, { name := "IOOBE_FORMATTER", type := (.object "java/util/function/BiFunction"), accessFlags := 25, slot := 2, constantValue := 0 }]
  methods := #[k16m0]
  instanceTypes := #[]
  staticTypes := #[(.object "java/util/function/BiFunction"), (.object "java/util/function/BiFunction"), (.object "java/util/function/BiFunction")]
  resolved := Array.replicate 194 none
  statics := some 3 }

def pool17 : Array CpInfo := pool [(9, u "<init>"), (6, .class_ 18), (1, u "java/lang/Object"), (0, u "()V"), (1, .class_ 23), (1, u "jdk/internal/util/ArraysSupport"), (0, u "LOG2_ARRAY_LONG_INDEX_SCALE"), (0, u "I"), (2, u "U"), (0, u "Ljdk/internal/misc/Unsafe;"), (8, u "BIG_ENDIAN"), (0, u "Z"), (8, u "LOG2_BYTE_BIT_SIZE"), (4, u "LOG2_ARRAY_INT_INDEX_SCALE"), (54, u "JLA"), (0, u "Ljdk/internal/access/JavaLangAccess;"), (11, u "LOG2_ARRAY_BOOLEAN_INDEX_SCALE"), (9, u "LOG2_ARRAY_BYTE_INDEX_SCALE"), (5, u "LOG2_ARRAY_CHAR_INDEX_SCALE"), (5, u "LOG2_ARRAY_SHORT_INDEX_SCALE"), (18, u "LOG2_ARRAY_FLOAT_INDEX_SCALE"), (24, u "LOG2_ARRAY_DOUBLE_INDEX_SCALE"), (89, u "T_BOOLEAN"), (2, u "T_CHAR"), (1, u "T_FLOAT"), (1, u "T_DOUBLE"), (1, u "T_BYTE"), (1, u "T_SHORT"), (1, u "T_INT"), (1, u "T_LONG"), (1, u "SOFT_MAX_ARRAY_LENGTH")] 83

def k17m0 : Method := { name := "<init>", desc := "()V", sig := { parameters := [], returnType := none }, accessFlags := 2, code := none }
/-- jdk/internal/util/ArraysSupport -/
def k17 : Class := { plain "jdk/internal/util/ArraysSupport" (some 0) with
  accessFlags := 33
  interfaces := #[]
  cf := some (fileOf pool17 21 #[] #[{ accessFlags := 2, nameIndex := 9, descriptorIndex := 19, attributes := #[] }] 33 16 #[] #[{ accessFlags := 24, nameIndex := 28, descriptorIndex := 29, attributes := #[] }, { accessFlags := 26, nameIndex := 38, descriptorIndex := 39, attributes := #[] }, { accessFlags := 25, nameIndex := 121, descriptorIndex := 25, attributes := #[] }, { accessFlags := 25, nameIndex := 131, descriptorIndex := 25, attributes := #[] }, { accessFlags := 25, nameIndex := 137, descriptorIndex := 25, attributes := #[] }, { accessFlags := 25, nameIndex := 143, descriptorIndex := 25, attributes := #[] }, { accessFlags := 25, nameIndex := 53, descriptorIndex := 25, attributes := #[] }, { accessFlags := 25, nameIndex := 24, descriptorIndex := 25, attributes := #[] }, { accessFlags := 25, nameIndex := 162, descriptorIndex := 25, attributes := #[] }, { accessFlags := 25, nameIndex := 187, descriptorIndex := 25, attributes := #[] }, { accessFlags := 26, nameIndex := 48, descriptorIndex := 25, attributes := #[] }, { accessFlags := 25, nameIndex := 277, descriptorIndex := 25, attributes := #[] }, { accessFlags := 25, nameIndex := 280, descriptorIndex := 25, attributes := #[] }, { accessFlags := 25, nameIndex := 282, descriptorIndex := 25, attributes := #[] }, { accessFlags := 25, nameIndex := 284, descriptorIndex := 25, attributes := #[] }, { accessFlags := 25, nameIndex := 286, descriptorIndex := 25, attributes := #[] }, { accessFlags := 25, nameIndex := 288, descriptorIndex := 25, attributes := #[] }, { accessFlags := 25, nameIndex := 290, descriptorIndex := 25, attributes := #[] }, { accessFlags := 25, nameIndex := 292, descriptorIndex := 25, attributes := #[] }, { accessFlags := 26, nameIndex := 108, descriptorIndex := 109, attributes := #[] }, { accessFlags := 25, nameIndex := 294, descriptorIndex := 25, attributes := #[] }])
  fields := #[{ name := "U", type := (.object "jdk/internal/misc/Unsafe"), accessFlags := 24, slot := 0, constantValue := 0 }, { name := "BIG_ENDIAN", type := .boolean, accessFlags := 26, slot := 1, constantValue := 0 }, { name := "LOG2_ARRAY_BOOLEAN_INDEX_SCALE", type := .int, accessFlags := 25, slot := 2, constantValue := 0 }, { name := "LOG2_ARRAY_BYTE_INDEX_SCALE", type := .int, accessFlags := 25, slot := 3, constantValue := 0 }, { name := "LOG2_ARRAY_CHAR_INDEX_SCALE", type := .int, accessFlags := 25, slot := 4, constantValue := 0 }, { name := "LOG2_ARRAY_SHORT_INDEX_SCALE", type := .int, accessFlags := 25, slot := 5, constantValue := 0 }, { name := "LOG2_ARRAY_INT_INDEX_SCALE", type := .int, accessFlags := 25, slot := 6, constantValue := 0 }, { name := "LOG2_ARRAY_LONG_INDEX_SCALE", type := .int, accessFlags := 25, slot := 7, constantValue := 0 }, { name := "LOG2_ARRAY_FLOAT_INDEX_SCALE", type := .int, accessFlags := 25, slot := 8, constantValue := 0 }, { name := "LOG2_ARRAY_DOUBLE_INDEX_SCALE", type := .int, accessFlags := 25, slot := 9, constantValue := 0 }, { name := "LOG2_BYTE_BIT_SIZE", type := .int, accessFlags := 26, slot := 10, constantValue := 0 }, { name := "T_BOOLEAN", type := .int, accessFlags := 25, slot := 11, constantValue := 0 }, { name := "T_CHAR", type := .int, accessFlags := 25, slot := 12, constantValue := 0 }, { name := "T_FLOAT", type := .int, accessFlags := 25, slot := 13, constantValue := 0 }, { name := "T_DOUBLE", type := .int, accessFlags := 25, slot := 14, constantValue := 0 }, { name := "T_BYTE", type := .int, accessFlags := 25, slot := 15, constantValue := 0 }, { name := "T_SHORT", type := .int, accessFlags := 25, slot := 16, constantValue := 0 }, { name := "T_INT", type := .int, accessFlags := 25, slot := 17, constantValue := 0 }, { name := "T_LONG", type := .int, accessFlags := 25, slot := 18, constantValue := 0 }, { name := "JLA", type := (.object "jdk/internal/access/JavaLangAccess"), accessFlags := 26, slot := 19, constantValue := 0 }, { name := "SOFT_MAX_ARRAY_LENGTH", type := .int, accessFlags := 25, slot := 20, constantValue := 0 }]
  methods := #[k17m0]
  instanceTypes := #[]
  staticTypes := #[(.object "jdk/internal/misc/Unsafe"), .boolean, .int, .int, .int, .int, .int, .int, .int, .int, .int, .int, .int, .int, .int, .int, .int, .int, .int, (.object "jdk/internal/access/JavaLangAccess"), .int]
  resolved := Array.replicate 378 none
  statics := none }

def pool18 : Array CpInfo := pool [(1, u "java/lang/Cloneable"), (0, .class_ 1), (0, u "java/lang/Object"), (0, .class_ 3)] 3

/-- java/lang/Cloneable -/
def k18 : Class := { plain "java/lang/Cloneable" (some 0) with
  accessFlags := 1537
  interfaces := #[]
  cf := some (fileOf pool18 2 #[] #[] 1537 4 #[] #[])
  fields := #[]
  methods := #[]
  instanceTypes := #[]
  staticTypes := #[]
  resolved := Array.replicate 8 none
  statics := none }

/-- the primitive byte -/
def k19 : Class := { plain "byte" none with kind := .primitive 'B', accessFlags := 0x411 }
/-- [B -/
def k20 : Class := { plain "[B" (some 0) with kind := .array 19 .byte, interfaces := #[18, 4], accessFlags := 1041 }

/-- the primitive int -/
def k21 : Class := { plain "int" none with kind := .primitive 'I', accessFlags := 0x411 }
/-- [I -/
def k22 : Class := { plain "[I" (some 0) with kind := .array 21 .int, interfaces := #[18, 4], accessFlags := 1041 }

/-- [Ljava/lang/Integer; -/
def k23 : Class := { plain "[Ljava/lang/Integer;" (some 0) with kind := .array 14 (.object "java/lang/Integer"), interfaces := #[18, 4], accessFlags := 1041 }

/-- [Ljava/lang/Long; -/
def k24 : Class := { plain "[Ljava/lang/Long;" (some 0) with kind := .array 9 (.object "java/lang/Long"), interfaces := #[18, 4], accessFlags := 1041 }

def heap : Heap := #[{ cls := 10, slots := #[.ref 5, .null, .int 0], vm := .statics 10 },
  { cls := 12, slots := #[.long 0, .int 1, .null, .int 0, .null, .int 0, .int 0], vm := .statics 12 },
  { cls := 15, slots := #[.int 0, .int 127, .ref 4, .null, .int 0], vm := .statics 15 },
  { cls := 16, slots := #[.null, .null, .null], vm := .statics 16 },
  { cls := 23, slots := #[.ref 6, .ref 7, .ref 8, .ref 9, .ref 10, .ref 11, .ref 12, .ref 13, .ref 14, .ref 15, .ref 16, .ref 17, .ref 18, .ref 19, .ref 20, .ref 21, .ref 22, .ref 23, .ref 24, .ref 25, .ref 26, .ref 27, .ref 28, .ref 29, .ref 30, .ref 31, .ref 32, .ref 33, .ref 34, .ref 35, .ref 36, .ref 37, .ref 38, .ref 39, .ref 40, .ref 41, .ref 42, .ref 43, .ref 44, .ref 45, .ref 46, .ref 47, .ref 48, .ref 49, .ref 50, .ref 51, .ref 52, .ref 53, .ref 54, .ref 55, .ref 56, .ref 57, .ref 58, .ref 59, .ref 60, .ref 61, .ref 62, .ref 63, .ref 64, .ref 65, .ref 66, .ref 67, .ref 68, .ref 69, .ref 70, .ref 71, .ref 72, .ref 73, .ref 74, .ref 75, .ref 76, .ref 77, .ref 78, .ref 79, .ref 80, .ref 81, .ref 82, .ref 83, .ref 84, .ref 85, .ref 86, .ref 87, .ref 88, .ref 89, .ref 90, .ref 91, .ref 92, .ref 93, .ref 94, .ref 95, .ref 96, .ref 97, .ref 98, .ref 99, .ref 100, .ref 101, .ref 102, .ref 103, .ref 104, .ref 105, .ref 106, .ref 107, .ref 108, .ref 109, .ref 110, .ref 111, .ref 112, .ref 113, .ref 114, .ref 115, .ref 116, .ref 117, .ref 118, .ref 119, .ref 120, .ref 121, .ref 122, .ref 123, .ref 124, .ref 125, .ref 126, .ref 127, .ref 128, .ref 129, .ref 130, .ref 131, .ref 132, .ref 133, .ref 134, .ref 135, .ref 136, .ref 137, .ref 138, .ref 139, .ref 140, .ref 141, .ref 142, .ref 143, .ref 144, .ref 145, .ref 146, .ref 147, .ref 148, .ref 149, .ref 150, .ref 151, .ref 152, .ref 153, .ref 154, .ref 155, .ref 156, .ref 157, .ref 158, .ref 159, .ref 160, .ref 161, .ref 162, .ref 163, .ref 164, .ref 165, .ref 166, .ref 167, .ref 168, .ref 169, .ref 170, .ref 171, .ref 172, .ref 173, .ref 174, .ref 175, .ref 176, .ref 177, .ref 178, .ref 179, .ref 180, .ref 181, .ref 182, .ref 183, .ref 184, .ref 185, .ref 186, .ref 187, .ref 188, .ref 189, .ref 190, .ref 191, .ref 192, .ref 193, .ref 194, .ref 195, .ref 196, .ref 197, .ref 198, .ref 199, .ref 200, .ref 201, .ref 202, .ref 203, .ref 204, .ref 205, .ref 206, .ref 207, .ref 208, .ref 209, .ref 210, .ref 211, .ref 212, .ref 213, .ref 214, .ref 215, .ref 216, .ref 217, .ref 218, .ref 219, .ref 220, .ref 221, .ref 222, .ref 223, .ref 224, .ref 225, .ref 226, .ref 227, .ref 228, .ref 229, .ref 230, .ref 231, .ref 232, .ref 233, .ref 234, .ref 235, .ref 236, .ref 237, .ref 238, .ref 239, .ref 240, .ref 241, .ref 242, .ref 243, .ref 244, .ref 245, .ref 246, .ref 247, .ref 248, .ref 249, .ref 250, .ref 251, .ref 252, .ref 253, .ref 254, .ref 255, .ref 256, .ref 257, .ref 258, .ref 259, .ref 260, .ref 261], vm := .none },
  { cls := 24, slots := #[.ref 262, .ref 263, .ref 264, .ref 265, .ref 266, .ref 267, .ref 268, .ref 269, .ref 270, .ref 271, .ref 272, .ref 273, .ref 274, .ref 275, .ref 276, .ref 277, .ref 278, .ref 279, .ref 280, .ref 281, .ref 282, .ref 283, .ref 284, .ref 285, .ref 286, .ref 287, .ref 288, .ref 289, .ref 290, .ref 291, .ref 292, .ref 293, .ref 294, .ref 295, .ref 296, .ref 297, .ref 298, .ref 299, .ref 300, .ref 301, .ref 302, .ref 303, .ref 304, .ref 305, .ref 306, .ref 307, .ref 308, .ref 309, .ref 310, .ref 311, .ref 312, .ref 313, .ref 314, .ref 315, .ref 316, .ref 317, .ref 318, .ref 319, .ref 320, .ref 321, .ref 322, .ref 323, .ref 324, .ref 325, .ref 326, .ref 327, .ref 328, .ref 329, .ref 330, .ref 331, .ref 332, .ref 333, .ref 334, .ref 335, .ref 336, .ref 337, .ref 338, .ref 339, .ref 340, .ref 341, .ref 342, .ref 343, .ref 344, .ref 345, .ref 346, .ref 347, .ref 348, .ref 349, .ref 350, .ref 351, .ref 352, .ref 353, .ref 354, .ref 355, .ref 356, .ref 357, .ref 358, .ref 359, .ref 360, .ref 361, .ref 362, .ref 363, .ref 364, .ref 365, .ref 366, .ref 367, .ref 368, .ref 369, .ref 370, .ref 371, .ref 372, .ref 373, .ref 374, .ref 375, .ref 376, .ref 377, .ref 378, .ref 379, .ref 380, .ref 381, .ref 382, .ref 383, .ref 384, .ref 385, .ref 386, .ref 387, .ref 388, .ref 389, .ref 390, .ref 391, .ref 392, .ref 393, .ref 394, .ref 395, .ref 396, .ref 397, .ref 398, .ref 399, .ref 400, .ref 401, .ref 402, .ref 403, .ref 404, .ref 405, .ref 406, .ref 407, .ref 408, .ref 409, .ref 410, .ref 411, .ref 412, .ref 413, .ref 414, .ref 415, .ref 416, .ref 417, .ref 418, .ref 419, .ref 420, .ref 421, .ref 422, .ref 423, .ref 424, .ref 425, .ref 426, .ref 427, .ref 428, .ref 429, .ref 430, .ref 431, .ref 432, .ref 433, .ref 434, .ref 435, .ref 436, .ref 437, .ref 438, .ref 439, .ref 440, .ref 441, .ref 442, .ref 443, .ref 444, .ref 445, .ref 446, .ref 447, .ref 448, .ref 449, .ref 450, .ref 451, .ref 452, .ref 453, .ref 454, .ref 455, .ref 456, .ref 457, .ref 458, .ref 459, .ref 460, .ref 461, .ref 462, .ref 463, .ref 464, .ref 465, .ref 466, .ref 467, .ref 468, .ref 469, .ref 470, .ref 471, .ref 472, .ref 473, .ref 474, .ref 475, .ref 476, .ref 477, .ref 478, .ref 479, .ref 480, .ref 481, .ref 482, .ref 483, .ref 484, .ref 485, .ref 486, .ref 487, .ref 488, .ref 489, .ref 490, .ref 491, .ref 492, .ref 493, .ref 494, .ref 495, .ref 496, .ref 497, .ref 498, .ref 499, .ref 500, .ref 501, .ref 502, .ref 503, .ref 504, .ref 505, .ref 506, .ref 507, .ref 508, .ref 509, .ref 510, .ref 511, .ref 512, .ref 513, .ref 514, .ref 515, .ref 516, .ref 517], vm := .none },
  { cls := 14, slots := #[.int (-128)], vm := .none },
  { cls := 14, slots := #[.int (-127)], vm := .none },
  { cls := 14, slots := #[.int (-126)], vm := .none },
  { cls := 14, slots := #[.int (-125)], vm := .none },
  { cls := 14, slots := #[.int (-124)], vm := .none },
  { cls := 14, slots := #[.int (-123)], vm := .none },
  { cls := 14, slots := #[.int (-122)], vm := .none },
  { cls := 14, slots := #[.int (-121)], vm := .none },
  { cls := 14, slots := #[.int (-120)], vm := .none },
  { cls := 14, slots := #[.int (-119)], vm := .none },
  { cls := 14, slots := #[.int (-118)], vm := .none },
  { cls := 14, slots := #[.int (-117)], vm := .none },
  { cls := 14, slots := #[.int (-116)], vm := .none },
  { cls := 14, slots := #[.int (-115)], vm := .none },
  { cls := 14, slots := #[.int (-114)], vm := .none },
  { cls := 14, slots := #[.int (-113)], vm := .none },
  { cls := 14, slots := #[.int (-112)], vm := .none },
  { cls := 14, slots := #[.int (-111)], vm := .none },
  { cls := 14, slots := #[.int (-110)], vm := .none },
  { cls := 14, slots := #[.int (-109)], vm := .none },
  { cls := 14, slots := #[.int (-108)], vm := .none },
  { cls := 14, slots := #[.int (-107)], vm := .none },
  { cls := 14, slots := #[.int (-106)], vm := .none },
  { cls := 14, slots := #[.int (-105)], vm := .none },
  { cls := 14, slots := #[.int (-104)], vm := .none },
  { cls := 14, slots := #[.int (-103)], vm := .none },
  { cls := 14, slots := #[.int (-102)], vm := .none },
  { cls := 14, slots := #[.int (-101)], vm := .none },
  { cls := 14, slots := #[.int (-100)], vm := .none },
  { cls := 14, slots := #[.int (-99)], vm := .none },
  { cls := 14, slots := #[.int (-98)], vm := .none },
  { cls := 14, slots := #[.int (-97)], vm := .none },
  { cls := 14, slots := #[.int (-96)], vm := .none },
  { cls := 14, slots := #[.int (-95)], vm := .none },
  { cls := 14, slots := #[.int (-94)], vm := .none },
  { cls := 14, slots := #[.int (-93)], vm := .none },
  { cls := 14, slots := #[.int (-92)], vm := .none },
  { cls := 14, slots := #[.int (-91)], vm := .none },
  { cls := 14, slots := #[.int (-90)], vm := .none },
  { cls := 14, slots := #[.int (-89)], vm := .none },
  { cls := 14, slots := #[.int (-88)], vm := .none },
  { cls := 14, slots := #[.int (-87)], vm := .none },
  { cls := 14, slots := #[.int (-86)], vm := .none },
  { cls := 14, slots := #[.int (-85)], vm := .none },
  { cls := 14, slots := #[.int (-84)], vm := .none },
  { cls := 14, slots := #[.int (-83)], vm := .none },
  { cls := 14, slots := #[.int (-82)], vm := .none },
  { cls := 14, slots := #[.int (-81)], vm := .none },
  { cls := 14, slots := #[.int (-80)], vm := .none },
  { cls := 14, slots := #[.int (-79)], vm := .none },
  { cls := 14, slots := #[.int (-78)], vm := .none },
  { cls := 14, slots := #[.int (-77)], vm := .none },
  { cls := 14, slots := #[.int (-76)], vm := .none },
  { cls := 14, slots := #[.int (-75)], vm := .none },
  { cls := 14, slots := #[.int (-74)], vm := .none },
  { cls := 14, slots := #[.int (-73)], vm := .none },
  { cls := 14, slots := #[.int (-72)], vm := .none },
  { cls := 14, slots := #[.int (-71)], vm := .none },
  { cls := 14, slots := #[.int (-70)], vm := .none },
  { cls := 14, slots := #[.int (-69)], vm := .none },
  { cls := 14, slots := #[.int (-68)], vm := .none },
  { cls := 14, slots := #[.int (-67)], vm := .none },
  { cls := 14, slots := #[.int (-66)], vm := .none },
  { cls := 14, slots := #[.int (-65)], vm := .none },
  { cls := 14, slots := #[.int (-64)], vm := .none },
  { cls := 14, slots := #[.int (-63)], vm := .none },
  { cls := 14, slots := #[.int (-62)], vm := .none },
  { cls := 14, slots := #[.int (-61)], vm := .none },
  { cls := 14, slots := #[.int (-60)], vm := .none },
  { cls := 14, slots := #[.int (-59)], vm := .none },
  { cls := 14, slots := #[.int (-58)], vm := .none },
  { cls := 14, slots := #[.int (-57)], vm := .none },
  { cls := 14, slots := #[.int (-56)], vm := .none },
  { cls := 14, slots := #[.int (-55)], vm := .none },
  { cls := 14, slots := #[.int (-54)], vm := .none },
  { cls := 14, slots := #[.int (-53)], vm := .none },
  { cls := 14, slots := #[.int (-52)], vm := .none },
  { cls := 14, slots := #[.int (-51)], vm := .none },
  { cls := 14, slots := #[.int (-50)], vm := .none },
  { cls := 14, slots := #[.int (-49)], vm := .none },
  { cls := 14, slots := #[.int (-48)], vm := .none },
  { cls := 14, slots := #[.int (-47)], vm := .none },
  { cls := 14, slots := #[.int (-46)], vm := .none },
  { cls := 14, slots := #[.int (-45)], vm := .none },
  { cls := 14, slots := #[.int (-44)], vm := .none },
  { cls := 14, slots := #[.int (-43)], vm := .none },
  { cls := 14, slots := #[.int (-42)], vm := .none },
  { cls := 14, slots := #[.int (-41)], vm := .none },
  { cls := 14, slots := #[.int (-40)], vm := .none },
  { cls := 14, slots := #[.int (-39)], vm := .none },
  { cls := 14, slots := #[.int (-38)], vm := .none },
  { cls := 14, slots := #[.int (-37)], vm := .none },
  { cls := 14, slots := #[.int (-36)], vm := .none },
  { cls := 14, slots := #[.int (-35)], vm := .none },
  { cls := 14, slots := #[.int (-34)], vm := .none },
  { cls := 14, slots := #[.int (-33)], vm := .none },
  { cls := 14, slots := #[.int (-32)], vm := .none },
  { cls := 14, slots := #[.int (-31)], vm := .none },
  { cls := 14, slots := #[.int (-30)], vm := .none },
  { cls := 14, slots := #[.int (-29)], vm := .none },
  { cls := 14, slots := #[.int (-28)], vm := .none },
  { cls := 14, slots := #[.int (-27)], vm := .none },
  { cls := 14, slots := #[.int (-26)], vm := .none },
  { cls := 14, slots := #[.int (-25)], vm := .none },
  { cls := 14, slots := #[.int (-24)], vm := .none },
  { cls := 14, slots := #[.int (-23)], vm := .none },
  { cls := 14, slots := #[.int (-22)], vm := .none },
  { cls := 14, slots := #[.int (-21)], vm := .none },
  { cls := 14, slots := #[.int (-20)], vm := .none },
  { cls := 14, slots := #[.int (-19)], vm := .none },
  { cls := 14, slots := #[.int (-18)], vm := .none },
  { cls := 14, slots := #[.int (-17)], vm := .none },
  { cls := 14, slots := #[.int (-16)], vm := .none },
  { cls := 14, slots := #[.int (-15)], vm := .none },
  { cls := 14, slots := #[.int (-14)], vm := .none },
  { cls := 14, slots := #[.int (-13)], vm := .none },
  { cls := 14, slots := #[.int (-12)], vm := .none },
  { cls := 14, slots := #[.int (-11)], vm := .none },
  { cls := 14, slots := #[.int (-10)], vm := .none },
  { cls := 14, slots := #[.int (-9)], vm := .none },
  { cls := 14, slots := #[.int (-8)], vm := .none },
  { cls := 14, slots := #[.int (-7)], vm := .none },
  { cls := 14, slots := #[.int (-6)], vm := .none },
  { cls := 14, slots := #[.int (-5)], vm := .none },
  { cls := 14, slots := #[.int (-4)], vm := .none },
  { cls := 14, slots := #[.int (-3)], vm := .none },
  { cls := 14, slots := #[.int (-2)], vm := .none },
  { cls := 14, slots := #[.int (-1)], vm := .none },
  { cls := 14, slots := #[.int (0)], vm := .none },
  { cls := 14, slots := #[.int (1)], vm := .none },
  { cls := 14, slots := #[.int (2)], vm := .none },
  { cls := 14, slots := #[.int (3)], vm := .none },
  { cls := 14, slots := #[.int (4)], vm := .none },
  { cls := 14, slots := #[.int (5)], vm := .none },
  { cls := 14, slots := #[.int (6)], vm := .none },
  { cls := 14, slots := #[.int (7)], vm := .none },
  { cls := 14, slots := #[.int (8)], vm := .none },
  { cls := 14, slots := #[.int (9)], vm := .none },
  { cls := 14, slots := #[.int (10)], vm := .none },
  { cls := 14, slots := #[.int (11)], vm := .none },
  { cls := 14, slots := #[.int (12)], vm := .none },
  { cls := 14, slots := #[.int (13)], vm := .none },
  { cls := 14, slots := #[.int (14)], vm := .none },
  { cls := 14, slots := #[.int (15)], vm := .none },
  { cls := 14, slots := #[.int (16)], vm := .none },
  { cls := 14, slots := #[.int (17)], vm := .none },
  { cls := 14, slots := #[.int (18)], vm := .none },
  { cls := 14, slots := #[.int (19)], vm := .none },
  { cls := 14, slots := #[.int (20)], vm := .none },
  { cls := 14, slots := #[.int (21)], vm := .none },
  { cls := 14, slots := #[.int (22)], vm := .none },
  { cls := 14, slots := #[.int (23)], vm := .none },
  { cls := 14, slots := #[.int (24)], vm := .none },
  { cls := 14, slots := #[.int (25)], vm := .none },
  { cls := 14, slots := #[.int (26)], vm := .none },
  { cls := 14, slots := #[.int (27)], vm := .none },
  { cls := 14, slots := #[.int (28)], vm := .none },
  { cls := 14, slots := #[.int (29)], vm := .none },
  { cls := 14, slots := #[.int (30)], vm := .none },
  { cls := 14, slots := #[.int (31)], vm := .none },
  { cls := 14, slots := #[.int (32)], vm := .none },
  { cls := 14, slots := #[.int (33)], vm := .none },
  { cls := 14, slots := #[.int (34)], vm := .none },
  { cls := 14, slots := #[.int (35)], vm := .none },
  { cls := 14, slots := #[.int (36)], vm := .none },
  { cls := 14, slots := #[.int (37)], vm := .none },
  { cls := 14, slots := #[.int (38)], vm := .none },
  { cls := 14, slots := #[.int (39)], vm := .none },
  { cls := 14, slots := #[.int (40)], vm := .none },
  { cls := 14, slots := #[.int (41)], vm := .none },
  { cls := 14, slots := #[.int (42)], vm := .none },
  { cls := 14, slots := #[.int (43)], vm := .none },
  { cls := 14, slots := #[.int (44)], vm := .none },
  { cls := 14, slots := #[.int (45)], vm := .none },
  { cls := 14, slots := #[.int (46)], vm := .none },
  { cls := 14, slots := #[.int (47)], vm := .none },
  { cls := 14, slots := #[.int (48)], vm := .none },
  { cls := 14, slots := #[.int (49)], vm := .none },
  { cls := 14, slots := #[.int (50)], vm := .none },
  { cls := 14, slots := #[.int (51)], vm := .none },
  { cls := 14, slots := #[.int (52)], vm := .none },
  { cls := 14, slots := #[.int (53)], vm := .none },
  { cls := 14, slots := #[.int (54)], vm := .none },
  { cls := 14, slots := #[.int (55)], vm := .none },
  { cls := 14, slots := #[.int (56)], vm := .none },
  { cls := 14, slots := #[.int (57)], vm := .none },
  { cls := 14, slots := #[.int (58)], vm := .none },
  { cls := 14, slots := #[.int (59)], vm := .none },
  { cls := 14, slots := #[.int (60)], vm := .none },
  { cls := 14, slots := #[.int (61)], vm := .none },
  { cls := 14, slots := #[.int (62)], vm := .none },
  { cls := 14, slots := #[.int (63)], vm := .none },
  { cls := 14, slots := #[.int (64)], vm := .none },
  { cls := 14, slots := #[.int (65)], vm := .none },
  { cls := 14, slots := #[.int (66)], vm := .none },
  { cls := 14, slots := #[.int (67)], vm := .none },
  { cls := 14, slots := #[.int (68)], vm := .none },
  { cls := 14, slots := #[.int (69)], vm := .none },
  { cls := 14, slots := #[.int (70)], vm := .none },
  { cls := 14, slots := #[.int (71)], vm := .none },
  { cls := 14, slots := #[.int (72)], vm := .none },
  { cls := 14, slots := #[.int (73)], vm := .none },
  { cls := 14, slots := #[.int (74)], vm := .none },
  { cls := 14, slots := #[.int (75)], vm := .none },
  { cls := 14, slots := #[.int (76)], vm := .none },
  { cls := 14, slots := #[.int (77)], vm := .none },
  { cls := 14, slots := #[.int (78)], vm := .none },
  { cls := 14, slots := #[.int (79)], vm := .none },
  { cls := 14, slots := #[.int (80)], vm := .none },
  { cls := 14, slots := #[.int (81)], vm := .none },
  { cls := 14, slots := #[.int (82)], vm := .none },
  { cls := 14, slots := #[.int (83)], vm := .none },
  { cls := 14, slots := #[.int (84)], vm := .none },
  { cls := 14, slots := #[.int (85)], vm := .none },
  { cls := 14, slots := #[.int (86)], vm := .none },
  { cls := 14, slots := #[.int (87)], vm := .none },
  { cls := 14, slots := #[.int (88)], vm := .none },
  { cls := 14, slots := #[.int (89)], vm := .none },
  { cls := 14, slots := #[.int (90)], vm := .none },
  { cls := 14, slots := #[.int (91)], vm := .none },
  { cls := 14, slots := #[.int (92)], vm := .none },
  { cls := 14, slots := #[.int (93)], vm := .none },
  { cls := 14, slots := #[.int (94)], vm := .none },
  { cls := 14, slots := #[.int (95)], vm := .none },
  { cls := 14, slots := #[.int (96)], vm := .none },
  { cls := 14, slots := #[.int (97)], vm := .none },
  { cls := 14, slots := #[.int (98)], vm := .none },
  { cls := 14, slots := #[.int (99)], vm := .none },
  { cls := 14, slots := #[.int (100)], vm := .none },
  { cls := 14, slots := #[.int (101)], vm := .none },
  { cls := 14, slots := #[.int (102)], vm := .none },
  { cls := 14, slots := #[.int (103)], vm := .none },
  { cls := 14, slots := #[.int (104)], vm := .none },
  { cls := 14, slots := #[.int (105)], vm := .none },
  { cls := 14, slots := #[.int (106)], vm := .none },
  { cls := 14, slots := #[.int (107)], vm := .none },
  { cls := 14, slots := #[.int (108)], vm := .none },
  { cls := 14, slots := #[.int (109)], vm := .none },
  { cls := 14, slots := #[.int (110)], vm := .none },
  { cls := 14, slots := #[.int (111)], vm := .none },
  { cls := 14, slots := #[.int (112)], vm := .none },
  { cls := 14, slots := #[.int (113)], vm := .none },
  { cls := 14, slots := #[.int (114)], vm := .none },
  { cls := 14, slots := #[.int (115)], vm := .none },
  { cls := 14, slots := #[.int (116)], vm := .none },
  { cls := 14, slots := #[.int (117)], vm := .none },
  { cls := 14, slots := #[.int (118)], vm := .none },
  { cls := 14, slots := #[.int (119)], vm := .none },
  { cls := 14, slots := #[.int (120)], vm := .none },
  { cls := 14, slots := #[.int (121)], vm := .none },
  { cls := 14, slots := #[.int (122)], vm := .none },
  { cls := 14, slots := #[.int (123)], vm := .none },
  { cls := 14, slots := #[.int (124)], vm := .none },
  { cls := 14, slots := #[.int (125)], vm := .none },
  { cls := 14, slots := #[.int (126)], vm := .none },
  { cls := 14, slots := #[.int (127)], vm := .none },
  { cls := 9, slots := #[.long (-128)], vm := .none },
  { cls := 9, slots := #[.long (-127)], vm := .none },
  { cls := 9, slots := #[.long (-126)], vm := .none },
  { cls := 9, slots := #[.long (-125)], vm := .none },
  { cls := 9, slots := #[.long (-124)], vm := .none },
  { cls := 9, slots := #[.long (-123)], vm := .none },
  { cls := 9, slots := #[.long (-122)], vm := .none },
  { cls := 9, slots := #[.long (-121)], vm := .none },
  { cls := 9, slots := #[.long (-120)], vm := .none },
  { cls := 9, slots := #[.long (-119)], vm := .none },
  { cls := 9, slots := #[.long (-118)], vm := .none },
  { cls := 9, slots := #[.long (-117)], vm := .none },
  { cls := 9, slots := #[.long (-116)], vm := .none },
  { cls := 9, slots := #[.long (-115)], vm := .none },
  { cls := 9, slots := #[.long (-114)], vm := .none },
  { cls := 9, slots := #[.long (-113)], vm := .none },
  { cls := 9, slots := #[.long (-112)], vm := .none },
  { cls := 9, slots := #[.long (-111)], vm := .none },
  { cls := 9, slots := #[.long (-110)], vm := .none },
  { cls := 9, slots := #[.long (-109)], vm := .none },
  { cls := 9, slots := #[.long (-108)], vm := .none },
  { cls := 9, slots := #[.long (-107)], vm := .none },
  { cls := 9, slots := #[.long (-106)], vm := .none },
  { cls := 9, slots := #[.long (-105)], vm := .none },
  { cls := 9, slots := #[.long (-104)], vm := .none },
  { cls := 9, slots := #[.long (-103)], vm := .none },
  { cls := 9, slots := #[.long (-102)], vm := .none },
  { cls := 9, slots := #[.long (-101)], vm := .none },
  { cls := 9, slots := #[.long (-100)], vm := .none },
  { cls := 9, slots := #[.long (-99)], vm := .none },
  { cls := 9, slots := #[.long (-98)], vm := .none },
  { cls := 9, slots := #[.long (-97)], vm := .none },
  { cls := 9, slots := #[.long (-96)], vm := .none },
  { cls := 9, slots := #[.long (-95)], vm := .none },
  { cls := 9, slots := #[.long (-94)], vm := .none },
  { cls := 9, slots := #[.long (-93)], vm := .none },
  { cls := 9, slots := #[.long (-92)], vm := .none },
  { cls := 9, slots := #[.long (-91)], vm := .none },
  { cls := 9, slots := #[.long (-90)], vm := .none },
  { cls := 9, slots := #[.long (-89)], vm := .none },
  { cls := 9, slots := #[.long (-88)], vm := .none },
  { cls := 9, slots := #[.long (-87)], vm := .none },
  { cls := 9, slots := #[.long (-86)], vm := .none },
  { cls := 9, slots := #[.long (-85)], vm := .none },
  { cls := 9, slots := #[.long (-84)], vm := .none },
  { cls := 9, slots := #[.long (-83)], vm := .none },
  { cls := 9, slots := #[.long (-82)], vm := .none },
  { cls := 9, slots := #[.long (-81)], vm := .none },
  { cls := 9, slots := #[.long (-80)], vm := .none },
  { cls := 9, slots := #[.long (-79)], vm := .none },
  { cls := 9, slots := #[.long (-78)], vm := .none },
  { cls := 9, slots := #[.long (-77)], vm := .none },
  { cls := 9, slots := #[.long (-76)], vm := .none },
  { cls := 9, slots := #[.long (-75)], vm := .none },
  { cls := 9, slots := #[.long (-74)], vm := .none },
  { cls := 9, slots := #[.long (-73)], vm := .none },
  { cls := 9, slots := #[.long (-72)], vm := .none },
  { cls := 9, slots := #[.long (-71)], vm := .none },
  { cls := 9, slots := #[.long (-70)], vm := .none },
  { cls := 9, slots := #[.long (-69)], vm := .none },
  { cls := 9, slots := #[.long (-68)], vm := .none },
  { cls := 9, slots := #[.long (-67)], vm := .none },
  { cls := 9, slots := #[.long (-66)], vm := .none },
  { cls := 9, slots := #[.long (-65)], vm := .none },
  { cls := 9, slots := #[.long (-64)], vm := .none },
  { cls := 9, slots := #[.long (-63)], vm := .none },
  { cls := 9, slots := #[.long (-62)], vm := .none },
  { cls := 9, slots := #[.long (-61)], vm := .none },
  { cls := 9, slots := #[.long (-60)], vm := .none },
  { cls := 9, slots := #[.long (-59)], vm := .none },
  { cls := 9, slots := #[.long (-58)], vm := .none },
  { cls := 9, slots := #[.long (-57)], vm := .none },
  { cls := 9, slots := #[.long (-56)], vm := .none },
  { cls := 9, slots := #[.long (-55)], vm := .none },
  { cls := 9, slots := #[.long (-54)], vm := .none },
  { cls := 9, slots := #[.long (-53)], vm := .none },
  { cls := 9, slots := #[.long (-52)], vm := .none },
  { cls := 9, slots := #[.long (-51)], vm := .none },
  { cls := 9, slots := #[.long (-50)], vm := .none },
  { cls := 9, slots := #[.long (-49)], vm := .none },
  { cls := 9, slots := #[.long (-48)], vm := .none },
  { cls := 9, slots := #[.long (-47)], vm := .none },
  { cls := 9, slots := #[.long (-46)], vm := .none },
  { cls := 9, slots := #[.long (-45)], vm := .none },
  { cls := 9, slots := #[.long (-44)], vm := .none },
  { cls := 9, slots := #[.long (-43)], vm := .none },
  { cls := 9, slots := #[.long (-42)], vm := .none },
  { cls := 9, slots := #[.long (-41)], vm := .none },
  { cls := 9, slots := #[.long (-40)], vm := .none },
  { cls := 9, slots := #[.long (-39)], vm := .none },
  { cls := 9, slots := #[.long (-38)], vm := .none },
  { cls := 9, slots := #[.long (-37)], vm := .none },
  { cls := 9, slots := #[.long (-36)], vm := .none },
  { cls := 9, slots := #[.long (-35)], vm := .none },
  { cls := 9, slots := #[.long (-34)], vm := .none },
  { cls := 9, slots := #[.long (-33)], vm := .none },
  { cls := 9, slots := #[.long (-32)], vm := .none },
  { cls := 9, slots := #[.long (-31)], vm := .none },
  { cls := 9, slots := #[.long (-30)], vm := .none },
  { cls := 9, slots := #[.long (-29)], vm := .none },
  { cls := 9, slots := #[.long (-28)], vm := .none },
  { cls := 9, slots := #[.long (-27)], vm := .none },
  { cls := 9, slots := #[.long (-26)], vm := .none },
  { cls := 9, slots := #[.long (-25)], vm := .none },
  { cls := 9, slots := #[.long (-24)], vm := .none },
  { cls := 9, slots := #[.long (-23)], vm := .none },
  { cls := 9, slots := #[.long (-22)], vm := .none },
  { cls := 9, slots := #[.long (-21)], vm := .none },
  { cls := 9, slots := #[.long (-20)], vm := .none },
  { cls := 9, slots := #[.long (-19)], vm := .none },
  { cls := 9, slots := #[.long (-18)], vm := .none },
  { cls := 9, slots := #[.long (-17)], vm := .none },
  { cls := 9, slots := #[.long (-16)], vm := .none },
  { cls := 9, slots := #[.long (-15)], vm := .none },
  { cls := 9, slots := #[.long (-14)], vm := .none },
  { cls := 9, slots := #[.long (-13)], vm := .none },
  { cls := 9, slots := #[.long (-12)], vm := .none },
  { cls := 9, slots := #[.long (-11)], vm := .none },
  { cls := 9, slots := #[.long (-10)], vm := .none },
  { cls := 9, slots := #[.long (-9)], vm := .none },
  { cls := 9, slots := #[.long (-8)], vm := .none },
  { cls := 9, slots := #[.long (-7)], vm := .none },
  { cls := 9, slots := #[.long (-6)], vm := .none },
  { cls := 9, slots := #[.long (-5)], vm := .none },
  { cls := 9, slots := #[.long (-4)], vm := .none },
  { cls := 9, slots := #[.long (-3)], vm := .none },
  { cls := 9, slots := #[.long (-2)], vm := .none },
  { cls := 9, slots := #[.long (-1)], vm := .none },
  { cls := 9, slots := #[.long (0)], vm := .none },
  { cls := 9, slots := #[.long (1)], vm := .none },
  { cls := 9, slots := #[.long (2)], vm := .none },
  { cls := 9, slots := #[.long (3)], vm := .none },
  { cls := 9, slots := #[.long (4)], vm := .none },
  { cls := 9, slots := #[.long (5)], vm := .none },
  { cls := 9, slots := #[.long (6)], vm := .none },
  { cls := 9, slots := #[.long (7)], vm := .none },
  { cls := 9, slots := #[.long (8)], vm := .none },
  { cls := 9, slots := #[.long (9)], vm := .none },
  { cls := 9, slots := #[.long (10)], vm := .none },
  { cls := 9, slots := #[.long (11)], vm := .none },
  { cls := 9, slots := #[.long (12)], vm := .none },
  { cls := 9, slots := #[.long (13)], vm := .none },
  { cls := 9, slots := #[.long (14)], vm := .none },
  { cls := 9, slots := #[.long (15)], vm := .none },
  { cls := 9, slots := #[.long (16)], vm := .none },
  { cls := 9, slots := #[.long (17)], vm := .none },
  { cls := 9, slots := #[.long (18)], vm := .none },
  { cls := 9, slots := #[.long (19)], vm := .none },
  { cls := 9, slots := #[.long (20)], vm := .none },
  { cls := 9, slots := #[.long (21)], vm := .none },
  { cls := 9, slots := #[.long (22)], vm := .none },
  { cls := 9, slots := #[.long (23)], vm := .none },
  { cls := 9, slots := #[.long (24)], vm := .none },
  { cls := 9, slots := #[.long (25)], vm := .none },
  { cls := 9, slots := #[.long (26)], vm := .none },
  { cls := 9, slots := #[.long (27)], vm := .none },
  { cls := 9, slots := #[.long (28)], vm := .none },
  { cls := 9, slots := #[.long (29)], vm := .none },
  { cls := 9, slots := #[.long (30)], vm := .none },
  { cls := 9, slots := #[.long (31)], vm := .none },
  { cls := 9, slots := #[.long (32)], vm := .none },
  { cls := 9, slots := #[.long (33)], vm := .none },
  { cls := 9, slots := #[.long (34)], vm := .none },
  { cls := 9, slots := #[.long (35)], vm := .none },
  { cls := 9, slots := #[.long (36)], vm := .none },
  { cls := 9, slots := #[.long (37)], vm := .none },
  { cls := 9, slots := #[.long (38)], vm := .none },
  { cls := 9, slots := #[.long (39)], vm := .none },
  { cls := 9, slots := #[.long (40)], vm := .none },
  { cls := 9, slots := #[.long (41)], vm := .none },
  { cls := 9, slots := #[.long (42)], vm := .none },
  { cls := 9, slots := #[.long (43)], vm := .none },
  { cls := 9, slots := #[.long (44)], vm := .none },
  { cls := 9, slots := #[.long (45)], vm := .none },
  { cls := 9, slots := #[.long (46)], vm := .none },
  { cls := 9, slots := #[.long (47)], vm := .none },
  { cls := 9, slots := #[.long (48)], vm := .none },
  { cls := 9, slots := #[.long (49)], vm := .none },
  { cls := 9, slots := #[.long (50)], vm := .none },
  { cls := 9, slots := #[.long (51)], vm := .none },
  { cls := 9, slots := #[.long (52)], vm := .none },
  { cls := 9, slots := #[.long (53)], vm := .none },
  { cls := 9, slots := #[.long (54)], vm := .none },
  { cls := 9, slots := #[.long (55)], vm := .none },
  { cls := 9, slots := #[.long (56)], vm := .none },
  { cls := 9, slots := #[.long (57)], vm := .none },
  { cls := 9, slots := #[.long (58)], vm := .none },
  { cls := 9, slots := #[.long (59)], vm := .none },
  { cls := 9, slots := #[.long (60)], vm := .none },
  { cls := 9, slots := #[.long (61)], vm := .none },
  { cls := 9, slots := #[.long (62)], vm := .none },
  { cls := 9, slots := #[.long (63)], vm := .none },
  { cls := 9, slots := #[.long (64)], vm := .none },
  { cls := 9, slots := #[.long (65)], vm := .none },
  { cls := 9, slots := #[.long (66)], vm := .none },
  { cls := 9, slots := #[.long (67)], vm := .none },
  { cls := 9, slots := #[.long (68)], vm := .none },
  { cls := 9, slots := #[.long (69)], vm := .none },
  { cls := 9, slots := #[.long (70)], vm := .none },
  { cls := 9, slots := #[.long (71)], vm := .none },
  { cls := 9, slots := #[.long (72)], vm := .none },
  { cls := 9, slots := #[.long (73)], vm := .none },
  { cls := 9, slots := #[.long (74)], vm := .none },
  { cls := 9, slots := #[.long (75)], vm := .none },
  { cls := 9, slots := #[.long (76)], vm := .none },
  { cls := 9, slots := #[.long (77)], vm := .none },
  { cls := 9, slots := #[.long (78)], vm := .none },
  { cls := 9, slots := #[.long (79)], vm := .none },
  { cls := 9, slots := #[.long (80)], vm := .none },
  { cls := 9, slots := #[.long (81)], vm := .none },
  { cls := 9, slots := #[.long (82)], vm := .none },
  { cls := 9, slots := #[.long (83)], vm := .none },
  { cls := 9, slots := #[.long (84)], vm := .none },
  { cls := 9, slots := #[.long (85)], vm := .none },
  { cls := 9, slots := #[.long (86)], vm := .none },
  { cls := 9, slots := #[.long (87)], vm := .none },
  { cls := 9, slots := #[.long (88)], vm := .none },
  { cls := 9, slots := #[.long (89)], vm := .none },
  { cls := 9, slots := #[.long (90)], vm := .none },
  { cls := 9, slots := #[.long (91)], vm := .none },
  { cls := 9, slots := #[.long (92)], vm := .none },
  { cls := 9, slots := #[.long (93)], vm := .none },
  { cls := 9, slots := #[.long (94)], vm := .none },
  { cls := 9, slots := #[.long (95)], vm := .none },
  { cls := 9, slots := #[.long (96)], vm := .none },
  { cls := 9, slots := #[.long (97)], vm := .none },
  { cls := 9, slots := #[.long (98)], vm := .none },
  { cls := 9, slots := #[.long (99)], vm := .none },
  { cls := 9, slots := #[.long (100)], vm := .none },
  { cls := 9, slots := #[.long (101)], vm := .none },
  { cls := 9, slots := #[.long (102)], vm := .none },
  { cls := 9, slots := #[.long (103)], vm := .none },
  { cls := 9, slots := #[.long (104)], vm := .none },
  { cls := 9, slots := #[.long (105)], vm := .none },
  { cls := 9, slots := #[.long (106)], vm := .none },
  { cls := 9, slots := #[.long (107)], vm := .none },
  { cls := 9, slots := #[.long (108)], vm := .none },
  { cls := 9, slots := #[.long (109)], vm := .none },
  { cls := 9, slots := #[.long (110)], vm := .none },
  { cls := 9, slots := #[.long (111)], vm := .none },
  { cls := 9, slots := #[.long (112)], vm := .none },
  { cls := 9, slots := #[.long (113)], vm := .none },
  { cls := 9, slots := #[.long (114)], vm := .none },
  { cls := 9, slots := #[.long (115)], vm := .none },
  { cls := 9, slots := #[.long (116)], vm := .none },
  { cls := 9, slots := #[.long (117)], vm := .none },
  { cls := 9, slots := #[.long (118)], vm := .none },
  { cls := 9, slots := #[.long (119)], vm := .none },
  { cls := 9, slots := #[.long (120)], vm := .none },
  { cls := 9, slots := #[.long (121)], vm := .none },
  { cls := 9, slots := #[.long (122)], vm := .none },
  { cls := 9, slots := #[.long (123)], vm := .none },
  { cls := 9, slots := #[.long (124)], vm := .none },
  { cls := 9, slots := #[.long (125)], vm := .none },
  { cls := 9, slots := #[.long (126)], vm := .none },
  { cls := 9, slots := #[.long (127)], vm := .none }]
def classes : Array Class := #[k0, k1, k2, k3, k4, k5, k6, k7, k8, k9, k10, k11, k12, k13, k14, k15, k16, k17, k18, k19, k20, k21, k22, k23, k24]
def interned : List (Array UInt16 × Addr) := []
def slotsUsed : Nat := 1042
def theMethod : MethodId := ⟨1, 3⟩
def args0 : Array Value := #[.int 5, .int 3, .long 7, .int 8]
def aboutOver (below : List Frame) : State where
  vm := { classes := classes, interned := interned.toArray }
  heap := heap
  slotsUsed := slotsUsed
  threads := #[{ frames := .invoking theMethod args0 :: below }]
def below0 : List Frame := [.native { method := ⟨0, 0⟩, args := #[] }]
def about1 : State := aboutOver below0
def p0 : Program := .bare "" "" ""
def e0 : Env := launch0.env 0 0 0
theorem w_frames : about1.frames = Frame.invoking theMethod args0 :: below0 := rfl
set_option maxRecDepth 65536 in
theorem w_args : argsFit about1.vm theMethod args0 = true := by decide +kernel
set_option maxRecDepth 65536 in
theorem w_heap : heapFits about1 = true := by decide +kernel
set_option maxRecDepth 65536 in
theorem w_runnable : about1.curStatus? = some .runnable := by decide +kernel
set_option maxRecDepth 65536 in
theorem w_alone : about1.alone = true := by decide +kernel
set_option maxRecDepth 65536 in
theorem w_named : about1.methodNamed? x = some theMethod := by decide +kernel
set_option maxRecDepth 65536 in
theorem w_hears : about1.hears theMethod below0 = true := by decide +kernel
set_option maxRecDepth 65536 in
theorem w_ripe : about1.ripe theMethod args0 below0 = true := by decide +kernel
theorem w_running : about1.status = .running := rfl
set_option maxRecDepth 65536 in
theorem w_room : about1.hasRoom e0.platform room_1 = true :=
  launch0.hasRoom_least _ room_1 (by decide +kernel) (by decide +kernel) (by decide +kernel) (by decide +kernel) (by decide +kernel) (by decide +kernel)
theorem allAtoms_all (ts : List Jvm.Cond) (a : Array Jvm.Value) (st : Jvm.State) : (allAtoms ts).before a st = ts.all (fun c => c.before a st) := by
  induction ts with
  | nil => rfl
  | cons c t ih =>
    show (Jvm.Cond.and c (allAtoms t)).before a st = _
    rw [Jvm.Cond.before_and, ih, List.all_cons]
def words1 : List Jvm.Cond := Jvm.Cond.code x code maxLocals ret :: tables_1
/-- a 'code' word, met by the world's own term for the bytes: nothing is compared byte by byte -/
theorem code_word {y : MethodName} {bytes : ByteArray} {mx : Nat} {rt : Option FieldType} {a : Array Value} {s : State} {m : MethodId} {meth : Method} {c : Code} (h1 : s.methodNamed? y = some m) (h2 : s.vm.method? m = some meth) (h3 : meth.code = some c) (h4 : c.code = bytes)
    (h5 : (c.maxLocals == mx && c.exceptionTable.isEmpty && decide (c.maxStack ≤ mostOperands) && decide (meth.sig.returnType = rt) && !meth.locks && decide (parseMethodDescriptor y.desc = some meth.sig)) = true) : (Jvm.Cond.code y bytes mx rt).before a s = true := by
  simp only [Bool.and_eq_true, beq_iff_eq, Bool.not_eq_true', decide_eq_true_eq] at h5
  obtain ⟨⟨⟨⟨⟨g1, g2⟩, g3⟩, g4⟩, g5⟩, g6⟩ := h5
  simp [Cond.before, Cond.holds, Cond.value, h1, h2, h3, h4, g1, g2, g3, g4, g5, g6]
def isCode : Jvm.Cond → Bool
  | .code _ _ _ _ => true
  | _ => false
theorem all_split {L : List Jvm.Cond} {P : Jvm.Cond → Bool} (h1 : L.all (fun c => isCode c || P c) = true) (h2 : ∀ c ∈ L.filter isCode, P c = true) : L.all P = true := by
  refine List.all_eq_true.mpr fun c hc => ?_
  have h := List.all_eq_true.mp h1 c hc
  rcases Bool.eq_false_or_eq_true (isCode c) with hi | hi
  · exact h2 c (List.mem_filter.mpr ⟨hc, hi⟩)
  · simpa [hi] using h
set_option maxRecDepth 65536 in
theorem w_c0 : (Jvm.Cond.code x code maxLocals ret).before args0 about1 = true := code_word (m := ⟨1, 3⟩) (meth := k1m3) (c := k1c3) (by decide +kernel) rfl rfl rfl (by decide +kernel)
set_option maxRecDepth 65536 in
theorem w_c1 : (Jvm.Cond.code ({ cls := "com/example/tallyfold/tallyfold/aggregate/CountAddPinLaw", name := "pick", desc := "(IIJ)Ljava/lang/Object;" } : Jvm.MethodName) method_2_code (4 : Nat) (Option.some (Jvm.ClassFile.FieldType.object "java/lang/Object"))).before args0 about1 = true := code_word (m := ⟨1, 1⟩) (meth := k1m1) (c := k1c1) (by decide +kernel) rfl rfl rfl (by decide +kernel)
set_option maxRecDepth 65536 in
theorem w_c2 : (Jvm.Cond.code ({ cls := "com/example/tallyfold/tallyfold/aggregate/Count", name := "<init>", desc := "()V" } : Jvm.MethodName) prog_3_method_1_code (1 : Nat) (Option.none : Option Jvm.ClassFile.FieldType)).before args0 about1 = true := code_word (m := ⟨3, 0⟩) (meth := k3m0) (c := k3c0) (by decide +kernel) rfl rfl rfl (by decide +kernel)
set_option maxRecDepth 65536 in
theorem w_c3 : (Jvm.Cond.code ({ cls := "java/lang/Object", name := "<init>", desc := "()V" } : Jvm.MethodName) object_method_1_code (1 : Nat) (Option.none : Option Jvm.ClassFile.FieldType)).before args0 about1 = true := code_word (m := ⟨0, 0⟩) (meth := k0m0) (c := k0c0) (by decide +kernel) rfl rfl rfl (by decide +kernel)
set_option maxRecDepth 65536 in
theorem w_c4 : (Jvm.Cond.code ({ cls := "com/example/tallyfold/tallyfold/aggregate/Count", name := "add", desc := "(Ljava/lang/Object;)V" } : Jvm.MethodName) prog_3_method_2_code (2 : Nat) (Option.none : Option Jvm.ClassFile.FieldType)).before args0 about1 = true := code_word (m := ⟨3, 1⟩) (meth := k3m1) (c := k3c1) (by decide +kernel) rfl rfl rfl (by decide +kernel)
set_option maxRecDepth 65536 in
theorem w_c5 : (Jvm.Cond.code ({ cls := "com/example/tallyfold/tallyfold/aggregate/Count", name := "result", desc := "()Ljava/lang/Object;" } : Jvm.MethodName) prog_3_method_8_code (1 : Nat) (Option.some (Jvm.ClassFile.FieldType.object "java/lang/Object"))).before args0 about1 = true := code_word (m := ⟨3, 2⟩) (meth := k3m2) (c := k3c2) (by decide +kernel) rfl rfl rfl (by decide +kernel)
set_option maxRecDepth 65536 in
theorem w_c6 : (Jvm.Cond.code ({ cls := "java/lang/Long", name := "valueOf", desc := "(J)Ljava/lang/Long;" } : Jvm.MethodName) jdk_35_method_24_code (3 : Nat) (Option.some (Jvm.ClassFile.FieldType.object "java/lang/Long"))).before args0 about1 = true := code_word (m := ⟨9, 0⟩) (meth := k9m0) (c := k9c0) (by decide +kernel) rfl rfl rfl (by decide +kernel)
set_option maxRecDepth 65536 in
theorem w_c7 : (Jvm.Cond.code ({ cls := "com/example/tallyfold/tallyfold/aggregate/CountAddPinLaw", name := "isCount", desc := "(Ljava/lang/Object;J)Z" } : Jvm.MethodName) method_3_code (3 : Nat) (Option.some Jvm.ClassFile.FieldType.boolean)).before args0 about1 = true := code_word (m := ⟨1, 2⟩) (meth := k1m2) (c := k1c2) (by decide +kernel) rfl rfl rfl (by decide +kernel)
set_option maxRecDepth 65536 in
theorem w_c8 : (Jvm.Cond.code ({ cls := "java/lang/Long", name := "longValue", desc := "()J" } : Jvm.MethodName) jdk_35_method_31_code (1 : Nat) (Option.some Jvm.ClassFile.FieldType.long)).before args0 about1 = true := code_word (m := ⟨9, 2⟩) (meth := k9m2) (c := k9c2) (by decide +kernel) rfl rfl rfl (by decide +kernel)
set_option maxRecDepth 65536 in
theorem w_c9 : (Jvm.Cond.code ({ cls := "java/lang/String", name := "valueOf", desc := "(C)Ljava/lang/String;" } : Jvm.MethodName) jdk_42_method_139_code (1 : Nat) (Option.some (Jvm.ClassFile.FieldType.object "java/lang/String"))).before args0 about1 = true := code_word (m := ⟨12, 1⟩) (meth := k12m1) (c := k12c1) (by decide +kernel) rfl rfl rfl (by decide +kernel)
set_option maxRecDepth 65536 in
theorem w_c10 : (Jvm.Cond.code ({ cls := "java/lang/StringLatin1", name := "canEncode", desc := "(C)Z" } : Jvm.MethodName) jdk_43_method_3_code (1 : Nat) (Option.some Jvm.ClassFile.FieldType.boolean)).before args0 about1 = true := code_word (m := ⟨13, 1⟩) (meth := k13m1) (c := k13c1) (by decide +kernel) rfl rfl rfl (by decide +kernel)
set_option maxRecDepth 65536 in
theorem w_c11 : (Jvm.Cond.code ({ cls := "java/lang/StringLatin1", name := "toBytes", desc := "(C)[B" } : Jvm.MethodName) jdk_43_method_46_code (1 : Nat) (Option.some (Jvm.ClassFile.FieldType.array Jvm.ClassFile.FieldType.byte))).before args0 about1 = true := code_word (m := ⟨13, 2⟩) (meth := k13m2) (c := k13c2) (by decide +kernel) rfl rfl rfl (by decide +kernel)
set_option maxRecDepth 65536 in
theorem w_c12 : (Jvm.Cond.code ({ cls := "java/lang/String", name := "<init>", desc := "([BB)V" } : Jvm.MethodName) jdk_42_method_151_code (3 : Nat) (Option.none : Option Jvm.ClassFile.FieldType)).before args0 about1 = true := code_word (m := ⟨12, 2⟩) (meth := k12m2) (c := k12c2) (by decide +kernel) rfl rfl rfl (by decide +kernel)
set_option maxRecDepth 65536 in
theorem w_c13 : (Jvm.Cond.code ({ cls := "java/lang/Integer", name := "valueOf", desc := "(I)Ljava/lang/Integer;" } : Jvm.MethodName) jdk_33_method_22_code (1 : Nat) (Option.some (Jvm.ClassFile.FieldType.object "java/lang/Integer"))).before args0 about1 = true := code_word (m := ⟨14, 0⟩) (meth := k14m0) (c := k14c0) (by decide +kernel) rfl rfl rfl (by decide +kernel)
set_option maxRecDepth 65536 in
theorem w_c14 : (Jvm.Cond.code ({ cls := "java/lang/Integer", name := "<init>", desc := "(I)V" } : Jvm.MethodName) jdk_33_method_23_code (2 : Nat) (Option.none : Option Jvm.ClassFile.FieldType)).before args0 about1 = true := code_word (m := ⟨14, 1⟩) (meth := k14m1) (c := k14c1) (by decide +kernel) rfl rfl rfl (by decide +kernel)
set_option maxRecDepth 65536 in
theorem w_c15 : (Jvm.Cond.code ({ cls := "java/lang/Number", name := "<init>", desc := "()V" } : Jvm.MethodName) jdk_18_method_1_code (1 : Nat) (Option.none : Option Jvm.ClassFile.FieldType)).before args0 about1 = true := code_word (m := ⟨5, 0⟩) (meth := k5m0) (c := k5c0) (by decide +kernel) rfl rfl rfl (by decide +kernel)
set_option maxRecDepth 65536 in
theorem w_c16 : (Jvm.Cond.code ({ cls := "java/lang/Long", name := "<init>", desc := "(J)V" } : Jvm.MethodName) jdk_35_method_26_code (3 : Nat) (Option.none : Option Jvm.ClassFile.FieldType)).before args0 about1 = true := code_word (m := ⟨9, 1⟩) (meth := k9m1) (c := k9c1) (by decide +kernel) rfl rfl rfl (by decide +kernel)
def codes1 : List Jvm.Cond := [Jvm.Cond.code x code maxLocals ret, Jvm.Cond.code ({ cls := "com/example/tallyfold/tallyfold/aggregate/CountAddPinLaw", name := "pick", desc := "(IIJ)Ljava/lang/Object;" } : Jvm.MethodName) method_2_code (4 : Nat) (Option.some (Jvm.ClassFile.FieldType.object "java/lang/Object")), Jvm.Cond.code ({ cls := "com/example/tallyfold/tallyfold/aggregate/Count", name := "<init>", desc := "()V" } : Jvm.MethodName) prog_3_method_1_code (1 : Nat) (Option.none : Option Jvm.ClassFile.FieldType), Jvm.Cond.code ({ cls := "java/lang/Object", name := "<init>", desc := "()V" } : Jvm.MethodName) object_method_1_code (1 : Nat) (Option.none : Option Jvm.ClassFile.FieldType), Jvm.Cond.code ({ cls := "com/example/tallyfold/tallyfold/aggregate/Count", name := "add", desc := "(Ljava/lang/Object;)V" } : Jvm.MethodName) prog_3_method_2_code (2 : Nat) (Option.none : Option Jvm.ClassFile.FieldType), Jvm.Cond.code ({ cls := "com/example/tallyfold/tallyfold/aggregate/Count", name := "result", desc := "()Ljava/lang/Object;" } : Jvm.MethodName) prog_3_method_8_code (1 : Nat) (Option.some (Jvm.ClassFile.FieldType.object "java/lang/Object")), Jvm.Cond.code ({ cls := "java/lang/Long", name := "valueOf", desc := "(J)Ljava/lang/Long;" } : Jvm.MethodName) jdk_35_method_24_code (3 : Nat) (Option.some (Jvm.ClassFile.FieldType.object "java/lang/Long")), Jvm.Cond.code ({ cls := "com/example/tallyfold/tallyfold/aggregate/CountAddPinLaw", name := "isCount", desc := "(Ljava/lang/Object;J)Z" } : Jvm.MethodName) method_3_code (3 : Nat) (Option.some Jvm.ClassFile.FieldType.boolean), Jvm.Cond.code ({ cls := "java/lang/Long", name := "longValue", desc := "()J" } : Jvm.MethodName) jdk_35_method_31_code (1 : Nat) (Option.some Jvm.ClassFile.FieldType.long), Jvm.Cond.code ({ cls := "java/lang/String", name := "valueOf", desc := "(C)Ljava/lang/String;" } : Jvm.MethodName) jdk_42_method_139_code (1 : Nat) (Option.some (Jvm.ClassFile.FieldType.object "java/lang/String")), Jvm.Cond.code ({ cls := "java/lang/StringLatin1", name := "canEncode", desc := "(C)Z" } : Jvm.MethodName) jdk_43_method_3_code (1 : Nat) (Option.some Jvm.ClassFile.FieldType.boolean), Jvm.Cond.code ({ cls := "java/lang/StringLatin1", name := "toBytes", desc := "(C)[B" } : Jvm.MethodName) jdk_43_method_46_code (1 : Nat) (Option.some (Jvm.ClassFile.FieldType.array Jvm.ClassFile.FieldType.byte)), Jvm.Cond.code ({ cls := "java/lang/String", name := "<init>", desc := "([BB)V" } : Jvm.MethodName) jdk_42_method_151_code (3 : Nat) (Option.none : Option Jvm.ClassFile.FieldType), Jvm.Cond.code ({ cls := "java/lang/Integer", name := "valueOf", desc := "(I)Ljava/lang/Integer;" } : Jvm.MethodName) jdk_33_method_22_code (1 : Nat) (Option.some (Jvm.ClassFile.FieldType.object "java/lang/Integer")), Jvm.Cond.code ({ cls := "java/lang/Integer", name := "<init>", desc := "(I)V" } : Jvm.MethodName) jdk_33_method_23_code (2 : Nat) (Option.none : Option Jvm.ClassFile.FieldType), Jvm.Cond.code ({ cls := "java/lang/Number", name := "<init>", desc := "()V" } : Jvm.MethodName) jdk_18_method_1_code (1 : Nat) (Option.none : Option Jvm.ClassFile.FieldType), Jvm.Cond.code ({ cls := "java/lang/Long", name := "<init>", desc := "(J)V" } : Jvm.MethodName) jdk_35_method_26_code (3 : Nat) (Option.none : Option Jvm.ClassFile.FieldType)]
set_option maxRecDepth 65536 in
theorem codes_eq : words1.filter isCode = codes1 := rfl
theorem w_codes : ∀ c ∈ words1.filter isCode, c.before args0 about1 = true := by
  rw [codes_eq]
  intro c hc
  simp only [codes1, List.mem_cons, List.not_mem_nil, or_false] at hc
  rcases hc with rfl | rfl | rfl | rfl | rfl | rfl | rfl | rfl | rfl | rfl | rfl | rfl | rfl | rfl | rfl | rfl | rfl
  · exact w_c0
  · exact w_c1
  · exact w_c2
  · exact w_c3
  · exact w_c4
  · exact w_c5
  · exact w_c6
  · exact w_c7
  · exact w_c8
  · exact w_c9
  · exact w_c10
  · exact w_c11
  · exact w_c12
  · exact w_c13
  · exact w_c14
  · exact w_c15
  · exact w_c16
set_option maxRecDepth 65536 in
theorem w_t1 : (words1.take 24).all (fun c => isCode c || c.before args0 about1) = true := by decide +kernel
set_option maxRecDepth 65536 in
theorem w_t2 : ((words1.drop 24).take 24).all (fun c => isCode c || c.before args0 about1) = true := by decide +kernel
set_option maxRecDepth 65536 in
theorem w_t3 : (((words1.drop 24).drop 24).take 24).all (fun c => isCode c || c.before args0 about1) = true := by decide +kernel
set_option maxRecDepth 65536 in
theorem w_t4 : ((((words1.drop 24).drop 24).drop 24).take 24).all (fun c => isCode c || c.before args0 about1) = true := by decide +kernel
set_option maxRecDepth 65536 in
theorem w_t5 : ((((words1.drop 24).drop 24).drop 24).drop 24).all (fun c => isCode c || c.before args0 about1) = true := by decide +kernel
theorem w_tables : (allAtoms (Jvm.Cond.code x code maxLocals ret :: tables_1)).before args0 about1 = true := by
  rw [allAtoms_all]
  show words1.all (fun c => c.before args0 about1) = true
  refine all_split ?_ w_codes
  rw [← List.take_append_drop 24 words1, List.all_append, w_t1, ← List.take_append_drop 24 (words1.drop 24), List.all_append, w_t2, ← List.take_append_drop 24 ((words1.drop 24).drop 24), List.all_append, w_t3, ← List.take_append_drop 24 (((words1.drop 24).drop 24).drop 24), List.all_append, w_t4, w_t5]
  rfl
set_option maxRecDepth 65536 in
theorem w_rest : rest_1_c.before args0 about1 = true := by decide +kernel
set_option maxRecDepth 65536 in
theorem w_case : (Jvm.Cond.and given_1 narrow_1).before args0 about1 = true := by decide +kernel
theorem w_applies : (headSpec (Jvm.Cond.code x code maxLocals ret :: tables_1) room_1).applies x e0.platform about1 = true :=
  (Spec.applies_iff w_frames).mpr ⟨w_running, w_runnable, w_alone, w_named, w_hears, w_ripe, w_room, w_tables⟩
theorem atStart : AtStart classFile x code maxLocals ret World_1 tables_1 room_1 Calls_1 rest_1 Pre_1 launch0 p0 e0 about1 theMethod args0 below0 :=
  ⟨lists_1, trivial, launch0.admits_env _ _ _, launch0.least_env, fairChoices_fair.cas, fairChoices_fair.clock, w_frames, w_args, w_heap, w_applies, trivial, w_rest, w_case⟩
end start1
theorem witness_1 : WitnessClaimed_1 := ⟨start1.p0, start1.e0, start1.about1, start1.theMethod, start1.args0, start1.below0, start1.atStart⟩
end Jvm.Pilot.@@N@@
