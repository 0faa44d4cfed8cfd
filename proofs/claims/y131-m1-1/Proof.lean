import JvmDerived
import JvmDerived.Pilot.@@N@@Statement
import JvmDerived.Pilot.@@N@@Code
set_option linter.unusedVariables false
set_option linter.unusedSimpArgs false
namespace Jvm.Pilot.@@N@@
open Jvm Jvm.ClassFile Sem Op Lib Jvm.Free Jvm.Stand Jvm.LawKit Jvm.RoadKit Bundle Jvm.Pilot.@@N@@.Jvm.D
/-! own kit: the walk in continuation form: 'Go': from this point the body comes to its end with what Q says -/
section OwnGo
variable {p : Program} {l : Launch} {e : Env} {R : Room} {s : State} {m : MethodId} {args : Array Value} {below : List Frame} {meth : Method} {c : Code} {T : State} {locs : List Loc} {cells slots : Nat} {Z : State} {a0 : Array Value} {h : Heap} {Q : Option Value → Heap → List Loc → Prop} {C S : Nat} {End : Outcome → State → List Loc → Prop}
def Go (p : Program) (e : Env) (below : List Frame) (End : Outcome → State → List Loc → Prop) (Q : Option Value → Heap → List Loc → Prop) (T : State) (f : JFrame) : Prop :=
  ∃ s₂ o, Steps p.tables e below (T.setTop f) s₂ ∧ s₂.status = .running ∧ Ended s₂ below o ∧ ∃ v L, o = .returned v ∧ Q v s₂.heap L ∧ End o s₂ L
/-- the end of a walk that leaves the table of strings alone, and of one that may not -/
def EndN (s : State) (C S : Nat) : Outcome → State → List Loc → Prop := fun o t L => FrameEnd s o t L C S
def EndW (s : State) (C S : Nat) : Outcome → State → List Loc → Prop := fun o t L => ReturnedEndW s o t L C S
def OwnP (val : Option Value) (h0 : Heap) (n0 : Nat) (v : Option Value) (h : Heap) (L : List Loc) : Prop := v = val ∧ Fr n0 L ∧ h = h0
def OwnR (val : Option Value) (n0 : Nat) (v : Option Value) (h : Heap) (L : List Loc) : Prop := v = val ∧ Fr n0 L
abbrev OwnMet (l : Launch) (Z : State) (y : MethodName) (bytes : ByteArray) (maxL : Nat) (ret : Option FieldType) (ws : List Jvm.Cond) (rm : Room) (as' : Array Value) (h0 : Heap) (Q : Option Value → Heap → List Loc → Prop) : Prop :=
  MetFree l y (head1 (Jvm.Cond.code y bytes maxL ret :: ws) rm) (fun a U => a = as' ∧ Z.Warmed39 U.vm ∧ U.heap = h0) (fun _ _ _ _ _ => True) (fun _ U o U' => ∃ v L, o = .returned v ∧ Q v U'.heap L ∧ FrameEnd U o U' L rm.cells rm.slots)
theorem own_body {y : MethodName} {bytes : ByteArray} {maxL : Nat} {ret : Option FieldType} {ws : List Jvm.Cond} {rm : Room} {as' : Array Value} {h0 : Heap} (hpl : plainFor y = true)
    (k : ∀ (p : Program) (e : Env) (s : State) (m : MethodId) (below : List Frame) (meth : Method) (c : Code) (s₁ : State), Stand p l e rm s m as' below meth c s₁ [] 0 0 → p.tables.exec = Jvm.exec → c.code = bytes → c.maxLocals = maxL → meth.sig.returnType = ret → meth.locks = false → s.vm.findClass y.cls = some m.cls → meth.name = y.name → Z.Warmed39 s.vm → s₁.heap = h0 → s.heap = h0 → Go p e below (EndN s rm.cells rm.slots) Q s₁ (entryFrame m as' maxL)) :
    OwnMet l Z y bytes maxL ret ws rm as' h0 Q := by
  refine MetFree.of_bodySF hpl hisR ?_
  intro p e s m args below meth c s₁ Bd hml0 hP hK
  obtain ⟨rfl, hZ, hh⟩ := hP
  exact k p e s m below meth c s₁ (Stand.of_body Bd) Bd.exec Bd.bytes hml0 Bd.returns Bd.notSynchronized (findClass_of_methodNamed Bd.named) (name_of_methodNamed Bd.named Bd.method).1 hZ (by rw [← hh, Bd.state]; rfl) hh
theorem own_go {T' : State} {f f' : JFrame} (k : ∀ t, Steps p.tables e below (T'.setTop f') t → Steps p.tables e below (T.setTop f) t) (G : Go p e below End Q T' f') : Go p e below End Q T f := by
  obtain ⟨s₂, o, hs, r⟩ := G
  exact ⟨s₂, o, k _ hs, r⟩
theorem own_entry {f : JFrame} {f' : JFrame} (q : f = f') (G : Go p e below End Q T f') : Go p e below End Q T f := q ▸ G
/-- the method can be left here -/
def Leaves (e : Env) (below : List Frame) (m : MethodId) (meth : Method) (T : State) (locs : List Loc) (End : Outcome → State → List Loc → Prop) : Prop :=
  ∀ v : Option Value, (meth.sig.returnType = none → v = none) → ∃ fs, (∀ (f : JFrame) (acts : List Action), f.method = m → f.locked = none → f.entered = [] → (doReturn e (T.setTop f) acts v).1 = T.setFrames fs) ∧ (T.setFrames fs).status = .running ∧ Ended (T.setFrames fs) below (.returned v) ∧ End (.returned v) (T.setFrames fs) locs
theorem own_lvN (X : Stand p l e R s m args below meth c T locs cells slots) (hlk : meth.locks = false) (hC : cells ≤ C) (hS : slots ≤ S) : Leaves e below m meth T locs (EndN s C S) := fun v hv => by
  obtain ⟨fs, hr, hrun, hended, hW, hsame⟩ := X.leave hv hlk
  exact ⟨fs, hr, hrun, hended, ⟨_, rfl⟩, hW, hsame.mono hC hS⟩
theorem own_leave {v : Option Value} (LV : Leaves e below m meth T locs End) (hv : meth.sig.returnType = none → v = none) {f : JFrame}
    (st : ∀ fs, (∀ (f : JFrame) (acts : List Action), f.method = m → f.locked = none → f.entered = [] → (doReturn e (T.setTop f) acts v).1 = T.setFrames fs) → Steps p.tables e below (T.setTop f) (T.setFrames fs))
    (hQ : Q v T.heap locs) : Go p e below End Q T f := by
  obtain ⟨fs, hr, hrun, hended, hE⟩ := LV v hv
  exact ⟨_, _, st fs hr, hrun, hended, _, _, rfl, hQ, hE⟩
theorem own_retN (X : Stand p l e R s m args below meth c T locs cells slots) (hx : p.tables.exec = Jvm.exec) (LV : Leaves e below m meth T locs End) {pc : Nat} {Ls : Array Slot} {z : Int32} {t : FieldType} {rest : List Value} (hret : meth.sig.returnType = some t) (ht : t = .boolean ∨ t = .byte ∨ t = .char ∨ t = .short)
    (hd : decode c.code pc = .ok (.ireturn, 1)) (hQ : Q (some (.int (nar t z))) T.heap locs) : Go p e below End Q T (mkF m pc Ls (.int z :: rest)) :=
  own_leave LV (fun h => by rw [hret] at h; cases h) (fun fs hr => retN X hx hret ht hd hr) hQ
theorem own_retO (X : Stand p l e R s m args below meth c T locs cells slots) (hx : p.tables.exec = Jvm.exec) (LV : Leaves e below m meth T locs End) {pc : Nat} {Ls : Array Slot} {w : Value} {t : FieldType} {i : Instr} {rest : List Value} (hret : meth.sig.returnType = some t) (hn : narrow t w = w)
    (hi : (i = .ireturn ∧ (t = .int ∨ t = .boolean ∨ t = .byte ∨ t = .char ∨ t = .short) ∧ ∃ z, w = .int z) ∨ (i = .lreturn ∧ t = .long ∧ ∃ z, w = .long z) ∨ (i = .dreturn ∧ t = .double ∧ ∃ z, w = .double z) ∨ (i = .freturn ∧ t = .float ∧ ∃ z, w = .float z) ∨ (i = .areturn ∧ t.isReference = true ∧ w.isRef = true))
    (hd : decode c.code pc = .ok (i, 1)) (hQ : Q (some w) T.heap locs) : Go p e below End Q T (mkF m pc Ls (w :: rest)) :=
  own_leave LV (fun h => by rw [hret] at h; cases h) (fun fs hr => retOut X hx hret hn hi hd hr) hQ
theorem own_retI (X : Stand p l e R s m args below meth c T locs cells slots) (hx : p.tables.exec = Jvm.exec) (LV : Leaves e below m meth T locs End) {pc : Nat} {Ls : Array Slot} {z : Int32} {rest : List Value} (hret : meth.sig.returnType = some .int)
    (hd : decode c.code pc = .ok (.ireturn, 1)) (hQ : Q (some (.int z)) T.heap locs) : Go p e below End Q T (mkF m pc Ls (.int z :: rest)) :=
  own_retO X hx LV hret rfl (Or.inl ⟨rfl, Or.inl rfl, z, rfl⟩) hd hQ
theorem own_retL (X : Stand p l e R s m args below meth c T locs cells slots) (hx : p.tables.exec = Jvm.exec) (LV : Leaves e below m meth T locs End) {pc : Nat} {Ls : Array Slot} {z : Int64} {rest : List Value} (hret : meth.sig.returnType = some .long)
    (hd : decode c.code pc = .ok (.lreturn, 1)) (hQ : Q (some (.long z)) T.heap locs) : Go p e below End Q T (mkF m pc Ls (.long z :: rest)) :=
  own_retO X hx LV hret rfl (Or.inr (Or.inl ⟨rfl, rfl, z, rfl⟩)) hd hQ
theorem own_retA (X : Stand p l e R s m args below meth c T locs cells slots) (hx : p.tables.exec = Jvm.exec) (LV : Leaves e below m meth T locs End) {pc : Nat} {Ls : Array Slot} {w : Value} {t : FieldType} {rest : List Value} (hret : meth.sig.returnType = some t) (ht : t.isReference = true) (hw : w.isRef = true)
    (hd : decode c.code pc = .ok (.areturn, 1)) (hQ : Q (some w) T.heap locs) : Go p e below End Q T (mkF m pc Ls (w :: rest)) :=
  own_retO X hx LV hret (by cases t <;> first | (cases w <;> first | rfl | cases hw) | cases ht) (Or.inr (Or.inr (Or.inr (Or.inr ⟨rfl, ht, hw⟩)))) hd hQ
theorem own_retV (X : Stand p l e R s m args below meth c T locs cells slots) (hx : p.tables.exec = Jvm.exec) (LV : Leaves e below m meth T locs End) {pc : Nat} {Ls : Array Slot} (hret : meth.sig.returnType = none)
    (hd : decode c.code pc = .ok (.return_, 1)) (hQ : Q none T.heap locs) : Go p e below End Q T (mkF m pc Ls []) :=
  own_leave LV (fun _ => rfl) (fun fs hr => X.returnOut hx hret hd hr) hQ
/-- a branch: taken where P -/
theorem own_icmpP (P : Prop) [Decidable P] (X : Stand p l e R s m args below meth c T locs cells slots) (hx : p.tables.exec = Jvm.exec) {cd : ClassFile.Cond} {x y : Int32} {rest : List Value} {o : Int} {pc pc' : Nat} {Ls : Array Slot} (hd : decode c.code pc = .ok (.if_icmp cd o, 3)) (hP : if_icmp.holds cd x y = decide P) (ho : 0 ≤ (pc : Int) + o) (hp : ((pc : Int) + o).toNat = pc')
    (h1 : P → Go p e below End Q T (mkF m pc' Ls rest)) (h2 : ¬ P → Go p e below End Q T (mkF m (pc + 3) Ls rest)) : Go p e below End Q T (mkF m pc Ls (.int y :: .int x :: rest)) := by
  by_cases q : P
  · exact own_go (fun t k => XS.icmpYes X.here hx rfl (pc0 := pc) (pc' := pc') rfl hd rfl (by rw [hP]; exact decide_eq_true q) ho hp k) (h1 q)
  · exact own_go (fun t k => XS.icmpNo X.here hx rfl hd rfl (by rw [hP]; exact decide_eq_false q) k) (h2 q)
/-- a branch: taken where not P -/
theorem own_icmpM (P : Prop) [Decidable P] (X : Stand p l e R s m args below meth c T locs cells slots) (hx : p.tables.exec = Jvm.exec) {cd : ClassFile.Cond} {x y : Int32} {rest : List Value} {o : Int} {pc pc' : Nat} {Ls : Array Slot} (hd : decode c.code pc = .ok (.if_icmp cd o, 3)) (hP : if_icmp.holds cd x y = !decide P) (ho : 0 ≤ (pc : Int) + o) (hp : ((pc : Int) + o).toNat = pc')
    (h1 : ¬ P → Go p e below End Q T (mkF m pc' Ls rest)) (h2 : P → Go p e below End Q T (mkF m (pc + 3) Ls rest)) : Go p e below End Q T (mkF m pc Ls (.int y :: .int x :: rest)) := by
  by_cases q : P
  · exact own_go (fun t k => XS.icmpNo X.here hx rfl hd rfl (by rw [hP]; simp [q]) k) (h2 q)
  · exact own_go (fun t k => XS.icmpYes X.here hx rfl (pc0 := pc) (pc' := pc') rfl hd rfl (by rw [hP]; simp [q]) ho hp k) (h1 q)
theorem own_ifP (P : Prop) [Decidable P] (X : Stand p l e R s m args below meth c T locs cells slots) (hx : p.tables.exec = Jvm.exec) {cd : ClassFile.Cond} {x : Int32} {rest : List Value} {o : Int} {pc pc' : Nat} {Ls : Array Slot} (hd : decode c.code pc = .ok (.ifCond cd o, 3)) (hP : if_icmp.holds cd x 0 = decide P) (ho : 0 ≤ (pc : Int) + o) (hp : ((pc : Int) + o).toNat = pc')
    (h1 : P → Go p e below End Q T (mkF m pc' Ls rest)) (h2 : ¬ P → Go p e below End Q T (mkF m (pc + 3) Ls rest)) : Go p e below End Q T (mkF m pc Ls (.int x :: rest)) := by
  by_cases q : P
  · exact own_go (fun t k => XS.ifYes X.here hx rfl (pc0 := pc) (pc' := pc') rfl hd rfl (by rw [if0, hP]; exact decide_eq_true q) ho hp k) (h1 q)
  · exact own_go (fun t k => XS.ifNo X.here hx rfl hd rfl (by rw [if0, hP]; exact decide_eq_false q) k) (h2 q)
theorem own_ifM (P : Prop) [Decidable P] (X : Stand p l e R s m args below meth c T locs cells slots) (hx : p.tables.exec = Jvm.exec) {cd : ClassFile.Cond} {x : Int32} {rest : List Value} {o : Int} {pc pc' : Nat} {Ls : Array Slot} (hd : decode c.code pc = .ok (.ifCond cd o, 3)) (hP : if_icmp.holds cd x 0 = !decide P) (ho : 0 ≤ (pc : Int) + o) (hp : ((pc : Int) + o).toNat = pc')
    (h1 : ¬ P → Go p e below End Q T (mkF m pc' Ls rest)) (h2 : P → Go p e below End Q T (mkF m (pc + 3) Ls rest)) : Go p e below End Q T (mkF m pc Ls (.int x :: rest)) := by
  by_cases q : P
  · exact own_go (fun t k => XS.ifNo X.here hx rfl hd rfl (by rw [if0, hP]; simp [q]) k) (h2 q)
  · exact own_go (fun t k => XS.ifYes X.here hx rfl (pc0 := pc) (pc' := pc') rfl hd rfl (by rw [if0, hP]; simp [q]) ho hp k) (h1 q)
theorem own_eq (x y : Int32) : if_icmp.holds .eq x y = decide (x = y) := by by_cases q : x = y <;> simp [if_icmp.holds, q]
theorem own_ne (x y : Int32) : if_icmp.holds .ne x y = !decide (x = y) := by by_cases q : x = y <;> simp [if_icmp.holds, q]
theorem own_lt (x y : Int32) : if_icmp.holds .lt x y = decide (x < y) := by by_cases q : x < y <;> simp [if_icmp.holds, q]
theorem own_ge (x y : Int32) : if_icmp.holds .ge x y = !decide (x < y) := by
  by_cases q : x < y
  · rw [(tlt q).2.1]; simp [q]
  · rw [(flt q).2.1]; simp [q]
theorem own_gt (x y : Int32) : if_icmp.holds .gt x y = decide (y < x) := by
  by_cases q : y < x
  · rw [(tlt q).2.2.1]; simp [q]
  · rw [(flt q).2.2.1]; simp [q]
theorem own_le (x y : Int32) : if_icmp.holds .le x y = !decide (y < x) := by
  by_cases q : y < x
  · rw [(tlt q).2.2.2]; simp [q]
  · rw [(flt q).2.2.2]; simp [q]
theorem own_acmp (P : Prop) [Decidable P] (X : Stand p l e R s m args below meth c T locs cells slots) (hx : p.tables.exec = Jvm.exec) {cd : ACond} {x y : Value} {rest : List Value} {o : Int} {pc : Nat} {Ls : Array Slot} (h1 : x.isRef = true) (h2 : y.isRef = true) (hP : (x = y) ↔ P) (hd : decode c.code pc = .ok (.if_acmp cd o, 3)) (ho : 0 ≤ (pc : Int) + o) {pcE pcN : Nat}
    (hE : pcE = if acV cd true = true then ((pc : Int) + o).toNat else pc + 3) (hN : pcN = if acV cd false = true then ((pc : Int) + o).toNat else pc + 3)
    (k1 : P → Go p e below End Q T (mkF m pcE Ls rest)) (k2 : ¬ P → Go p e below End Q T (mkF m pcN Ls rest)) : Go p e below End Q T (mkF m pc Ls (y :: x :: rest)) := by
  by_cases q : P
  · exact own_go (fun t k => Jvm.RoadKit.acmp (g := mkF m pc Ls (y :: x :: rest)) X hx rfl h1 h2 (pc0 := pc) (pc' := pcE) (same := true) rfl hd rfl (decide_eq_true (hP.mpr q)) ho hE k) (k1 q)
  · exact own_go (fun t k => Jvm.RoadKit.acmp (g := mkF m pc Ls (y :: x :: rest)) X hx rfl h1 h2 (pc0 := pc) (pc' := pcN) (same := false) rfl hd rfl (decide_eq_false fun z => q (hP.mp z)) ho hN k) (k2 q)
theorem own_ref (a b : Addr) : (Value.ref a = Value.ref b) ↔ (a = b) := ⟨Value.ref.inj, congrArg Value.ref⟩
theorem own_callS (X : Stand p l e R s m args below meth c T locs cells slots) (hx : p.tables.exec = Jvm.exec) (hZ : Z.Warmed39 s.vm) {own : String} {index : Nat} {y : MethodName} {bytes : ByteArray} {maxL : Nat} {ret : Option FieldType} {rm : Room} {as' : Array Value} {Qc : Option Value → Heap → List Loc → Prop}
    (hown : s.vm.findClass own = some m.cls) (wl : (Cond.methodLink own index y).before a0 Z = true) (wst : (Cond.static y).before a0 Z = true) (wi : (Cond.initialized y.cls).before a0 Z = true) (wc : (Cond.code y bytes maxL ret).before a0 Z = true)
    (hy : y.cls ≠ "java/lang/invoke/MethodHandle" ∧ y.cls ≠ "java/lang/invoke/VarHandle")
    (hM : MetFree l y (head1 [Cond.code y bytes maxL ret] rm) (fun a U => a = as' ∧ Z.Warmed39 U.vm ∧ U.heap = h) (fun _ _ _ _ _ => True) (fun _ U o U' => ∃ v L, o = .returned v ∧ Qc v U'.heap L ∧ FrameEnd U o U' L rm.cells rm.slots))
    (eT : T.heap = h) {pc : Nat} {Ls : Array Slot} (hsize : Ls.size = c.maxLocals) {argsL rest stk : List Value} (hst : stk = argsL.reverse ++ rest) (ha : argsL.toArray = as') (hlen : ∀ sig, parseMethodDescriptor y.desc = some sig → argsL.length = sig.parameters.length) {W : Nat} (hW : (rest.map fun v => v.category).sum ≤ W)
    (hf : rm.frames + 1 ≤ R.frames) (hl : W + (maxL + 11) + rm.locals ≤ R.locals) (hd : decode c.code pc = .ok (.invokestatic index, 3)) (hc : cells + rm.cells ≤ R.cells) (hs : slots + rm.slots ≤ R.slots)
    (k : ∀ (v : Option Value) (T' : State) (L : List Loc), Stand p l e R s m args below meth c T' (locs ++ L) (cells + rm.cells) (slots + rm.slots) → Qc v T'.heap L → Go p e below End Q T' (mkF m (pc + 3) Ls (v.toList ++ rest))) :
    Go p e below End Q T (mkF m pc Ls stk) := by
  subst hst
  obtain ⟨v, _, ⟨T', L', k', n'⟩, -, X', ⟨Lc, hQ, l1, y1, z1⟩, st⟩ := Jvm.LawKit.callS X hx (y := y) hown (mvT hZ wl) (mvT hZ wst) (mvT hZ wi) (mvT hZ wc) hy (backOf (W := W) hM hZ wc wi hf hl) (g := mkF m pc Ls (argsL.reverse ++ rest)) rfl hsize (argsL := argsL) (rest := rest) hlen rfl (by show 2 * 0 + _ ≤ _; rw [Nat.mul_zero, Nat.zero_add]; exact hW) hd (fun _ _ => ⟨ha, eT, hc, hs⟩)
  dsimp only [Pt.U, Pt.locs, Pt.cells, Pt.slots] at X' l1 y1 z1 st hQ
  subst l1 y1 z1
  exact own_go (fun t q => st _ q) (k v T' Lc X' hQ)
theorem own_callV (X : Stand p l e R s m args below meth c T locs cells slots) (hx : p.tables.exec = Jvm.exec) (hZ : Z.Warmed39 s.vm) {own Cn : String} {index : Nat} {y : MethodName} {bytes : ByteArray} {maxL : Nat} {ret : Option FieldType} {rm : Room} {as' : Array Value} {Qc : Option Value → Heap → List Loc → Prop}
    (hown : s.vm.findClass own = some m.cls) (wl : (Cond.methodLink own index y).before a0 Z = true) (wd : (Cond.declares y).before a0 Z = true) (wsel : (Cond.selects Cn y y).before a0 Z = true) (win : (Cond.instanceMethod y).before a0 Z = true) (wc : (Cond.code y bytes maxL ret).before a0 Z = true) (wi : (Cond.initialized y.cls).before a0 Z = true)
    (hy : y.cls ≠ "java/lang/invoke/MethodHandle" ∧ y.cls ≠ "java/lang/invoke/VarHandle")
    (hM : MetFree l y (head1 [Cond.code y bytes maxL ret] rm) (fun a U => a = as' ∧ Z.Warmed39 U.vm ∧ U.heap = h) (fun _ _ _ _ _ => True) (fun _ U o U' => ∃ v L, o = .returned v ∧ Qc v U'.heap L ∧ FrameEnd U o U' L rm.cells rm.slots))
    (eT : T.heap = h) {b : Addr} (E : Exa Z h b Cn) {pc : Nat} {Ls : Array Slot} (hsize : Ls.size = c.maxLocals) {argsL rest stk : List Value} (hst : stk = argsL.reverse ++ .ref b :: rest) (ha : (.ref b :: argsL).toArray = as') (hlen : ∀ sig, parseMethodDescriptor y.desc = some sig → argsL.length = sig.parameters.length) {W : Nat} (hW : (rest.map fun v => v.category).sum ≤ W)
    (hf : rm.frames + 1 ≤ R.frames) (hl : W + (maxL + 11) + rm.locals ≤ R.locals) (hd : decode c.code pc = .ok (.invokevirtual index, 3)) (hc : cells + rm.cells ≤ R.cells) (hs : slots + rm.slots ≤ R.slots)
    (k : ∀ (v : Option Value) (T' : State) (L : List Loc), Stand p l e R s m args below meth c T' (locs ++ L) (cells + rm.cells) (slots + rm.slots) → Qc v T'.heap L → Go p e below End Q T' (mkF m (pc + 3) Ls (v.toList ++ rest))) :
    Go p e below End Q T (mkF m pc Ls stk) := by
  subst hst
  obtain ⟨cq, kq, qa, qb, qc⟩ := isOf hZ eT E
  obtain ⟨v, _, ⟨T', L', k', n'⟩, -, X', ⟨Lc, hQ, l1, y1, z1⟩, st⟩ := X.virtualBack hx (y := y) (z := y) hown (mvT hZ wl) (mvT hZ wd) (notFace_of_selects (args := #[]) (mvT hZ wsel)) (mvT hZ wsel) (mvT hZ win) hy (backOf (W := W) hM hZ wc wi hf hl) qa qc (g := mkF m pc Ls (argsL.reverse ++ .ref b :: rest)) rfl hsize (Steps.refl _) (argsL := argsL) (rest := rest) hlen rfl (by show 2 * 0 + _ ≤ _; rw [Nat.mul_zero, Nat.zero_add]; exact hW) hd (fun _ _ => ⟨ha, eT, hc, hs⟩)
  dsimp only [Pt.U, Pt.locs, Pt.cells, Pt.slots] at X' l1 y1 z1 st hQ
  subst l1 y1 z1
  exact own_go (fun t q => st.trans q) (k v T' Lc X' hQ)
theorem own_callU (X : Stand p l e R s m args below meth c T locs cells slots) (hx : p.tables.exec = Jvm.exec) (hZ : Z.Warmed39 s.vm) {own Cn owner : String} {index : Nat} {y z : MethodName} {bytes : ByteArray} {maxL : Nat} {ret : Option FieldType} {rm : Room} {as' : Array Value} {Qc : Option Value → Heap → List Loc → Prop}
    (hown : s.vm.findClass own = some m.cls) (wl : (Cond.methodLink own index y).before a0 Z = true) (wsm : (Cond.sameMethod y.cls owner y.name y.desc).before a0 Z = true) (wd : (Cond.declares ⟨owner, y.name, y.desc⟩).before a0 Z = true) (wsel : (Cond.selects Cn y z).before a0 Z = true) (win : (Cond.instanceMethod z).before a0 Z = true) (wc : (Cond.code z bytes maxL ret).before a0 Z = true) (wi : (Cond.initialized z.cls).before a0 Z = true)
    (hy : owner ≠ "java/lang/invoke/MethodHandle" ∧ owner ≠ "java/lang/invoke/VarHandle")
    (hM : MetFree l z (head1 [Cond.code z bytes maxL ret] rm) (fun a U => a = as' ∧ Z.Warmed39 U.vm ∧ U.heap = h) (fun _ _ _ _ _ => True) (fun _ U o U' => ∃ v L, o = .returned v ∧ Qc v U'.heap L ∧ FrameEnd U o U' L rm.cells rm.slots))
    (eT : T.heap = h) {b : Addr} (E : Exa Z h b Cn) {pc : Nat} {Ls : Array Slot} (hsize : Ls.size = c.maxLocals) {argsL rest stk : List Value} (hst : stk = argsL.reverse ++ .ref b :: rest) (ha : (.ref b :: argsL).toArray = as') (hlen : ∀ sig, parseMethodDescriptor y.desc = some sig → argsL.length = sig.parameters.length) {W : Nat} (hW : (rest.map fun v => v.category).sum ≤ W)
    (hf : rm.frames + 1 ≤ R.frames) (hl : W + (maxL + 11) + rm.locals ≤ R.locals) (hd : decode c.code pc = .ok (.invokevirtual index, 3)) (hc : cells + rm.cells ≤ R.cells) (hs : slots + rm.slots ≤ R.slots)
    (k : ∀ (v : Option Value) (T' : State) (L : List Loc), Stand p l e R s m args below meth c T' (locs ++ L) (cells + rm.cells) (slots + rm.slots) → Qc v T'.heap L → Go p e below End Q T' (mkF m (pc + 3) Ls (v.toList ++ rest))) :
    Go p e below End Q T (mkF m pc Ls stk) := by
  subst hst
  obtain ⟨cq, kq, qa, qb, qc⟩ := isOf hZ eT E
  obtain ⟨v, _, ⟨T', L', k', n'⟩, -, X', ⟨Lc, hQ, l1, y1, z1⟩, st⟩ := X.virtualBackUp hx (x := y) (y := z) hown (mvT hZ wl) (mvT hZ wsm) (mvT hZ wd) hy (mvT hZ wsel) (mvT hZ win) (backOf (W := W) hM hZ wc wi hf hl) qa qc (g := mkF m pc Ls (argsL.reverse ++ .ref b :: rest)) rfl hsize (Steps.refl _) (argsL := argsL) (rest := rest) hlen rfl (by show 2 * 0 + _ ≤ _; rw [Nat.mul_zero, Nat.zero_add]; exact hW) hd (fun _ _ => ⟨ha, eT, hc, hs⟩)
  dsimp only [Pt.U, Pt.locs, Pt.cells, Pt.slots] at X' l1 y1 z1 st hQ
  subst l1 y1 z1
  exact own_go (fun t q => st.trans q) (k v T' Lc X' hQ)
theorem own_callI (X : Stand p l e R s m args below meth c T locs cells slots) (hx : p.tables.exec = Jvm.exec) (hZ : Z.Warmed39 s.vm) {own : String} {index : Nat} {y : MethodName} {bytes : ByteArray} {maxL : Nat} {rm : Room} {as' : Array Value} {Qc : Option Value → Heap → List Loc → Prop} (hy1 : y.name = "<init>")
    (hown : s.vm.findClass own = some m.cls) (wl : (Cond.methodLink own index y).before a0 Z = true) (win : (Cond.instanceMethod y).before a0 Z = true) (wc : (Cond.code y bytes maxL none).before a0 Z = true) (wi : (Cond.initialized y.cls).before a0 Z = true)
    (hy : y.cls ≠ "java/lang/invoke/MethodHandle" ∧ y.cls ≠ "java/lang/invoke/VarHandle")
    (hM : MetFree l y (head1 [Cond.code y bytes maxL none] rm) (fun a U => a = as' ∧ Z.Warmed39 U.vm ∧ U.heap = h) (fun _ _ _ _ _ => True) (fun _ U o U' => ∃ v L, o = .returned v ∧ Qc v U'.heap L ∧ FrameEnd U o U' L rm.cells rm.slots))
    (eT : T.heap = h) {b : Addr} {pc : Nat} {Ls : Array Slot} (hsize : Ls.size = c.maxLocals) {argsL rest stk : List Value} (hst : stk = argsL.reverse ++ .ref b :: rest) (ha : (.ref b :: argsL).toArray = as') (hlen : ∀ sig, parseMethodDescriptor y.desc = some sig → argsL.length = sig.parameters.length) {W : Nat} (hW : (rest.map fun v => v.category).sum ≤ W)
    (hf : rm.frames + 1 ≤ R.frames) (hl : W + (maxL + 11) + rm.locals ≤ R.locals) (hd : decode c.code pc = .ok (.invokespecial index, 3)) (hc : cells + rm.cells ≤ R.cells) (hs : slots + rm.slots ≤ R.slots)
    (k : ∀ (v : Option Value) (T' : State) (L : List Loc), Stand p l e R s m args below meth c T' (locs ++ L) (cells + rm.cells) (slots + rm.slots) → Qc v T'.heap L → Go p e below End Q T' (mkF m (pc + 3) Ls (v.toList ++ rest))) :
    Go p e below End Q T (mkF m pc Ls stk) := by
  subst hst
  obtain ⟨v, _, ⟨T', L', k', n'⟩, -, X', ⟨Lc, hQ, l1, y1, z1⟩, st⟩ := X.specialBack hx (y := y) hy1 hown (mvT hZ wl) (mvT hZ win) (mvT hZ wc) hy (backOf (W := W) hM hZ wc wi hf hl) (g := mkF m pc Ls (argsL.reverse ++ .ref b :: rest)) rfl hsize (Steps.refl _) (a := b) (argsL := argsL) (rest := rest) hlen rfl (by show 2 * 0 + _ ≤ _; rw [Nat.mul_zero, Nat.zero_add]; exact hW) hd (fun _ _ => ⟨ha, eT, hc, hs⟩)
  dsimp only [Pt.U, Pt.locs, Pt.cells, Pt.slots] at X' l1 y1 z1 st hQ
  subst l1 y1 z1
  exact own_go (fun t q => st.trans q) (k v T' Lc X' hQ)
theorem own_eqI {ar : Array Value} {t : Term} {k : Int32} (hx : (Cond.eq t (.int k)).value ar Z none Z [] = some true) : t.eval ar Z none [] Z = some (.int k) := by
  obtain ⟨x, y, e1, e2, k1, -⟩ := cmp_v (Or.inl hx)
  have e3 : y = .int k := Option.some.inj (e2.symm.trans (Term.int_eval k))
  subst e3
  cases x with
  | int z =>
    have := gotT (Cond.eq_ints e1 e2) hx
    subst this
    exact e1
  | _ => simp [Kin, Value.isRef] at k1
theorem own_fld {ar : Array Value} {t : Term} {w : Addr} {O n d : String} {k : Int32} (ev : t.eval ar Z none [] Z = some (.ref w)) (hx : (Cond.eq (.field t O n d) (.int k)).value ar Z none Z [] = some true) : Fld Z Z.heap w O n d (.int k) :=
  Fld.start ((fld_at (C := O) (n := n) (dd := d) ev).symm.trans (own_eqI hx))
theorem own_len {ar : Array Value} {t : Term} {a : Addr} {cl : Cell} {k : Int32} {n : Nat} (ev : t.eval ar Z none [] Z = some (.ref a)) (hat : Z.arrayAt? a = some cl) (hL : (Cond.eq (.length t) (.int k)).value ar Z none Z [] = some true) (hk : k.toInt = n) : cl.slots.size = n ∧ cl.slots.size < 2 ^ 31 := by
  by_cases hs : cl.slots.size < 2 ^ 31
  · have e1 := len_f (t := t) ev hat hs
    have e2 := own_eqI hL
    have e3 : cl.slots.size.toInt32 = k := Value.int.inj (Option.some.inj (e1.symm.trans e2))
    have e4 := len_toInt hs
    rw [e3, hk] at e4
    exact ⟨by omega, hs⟩
  · have e2 := own_eqI hL
    simp [Term.eval, ev, hat, hs] at e2
theorem own_ne_fld {a b : Addr} {Cn n d : String} {v w : Value} (F : Fld Z h a Cn n d v) (G : Fld Z h b Cn n d w) (hn : v ≠ w) : ¬ a = b := by
  rintro rfl
  obtain ⟨c1, cf1, k1, i1, f1, h1, h2, -, -, -, -, h7⟩ := F
  obtain ⟨c2, cf2, k2, i2, f2, g1, g2, -, -, -, -, g7⟩ := G
  cases h1.symm.trans g1
  cases h2.symm.trans g2
  cases h7.symm.trans g7
  exact hn rfl
theorem own_sta_keep {h h' : Heap} {ws : List Addr} {Cn n d : String} {v : Value} (F : Sta Z h Cn n d v) (K : Keep h h' ws) (hws : ∀ a ∈ ws, ∃ C', Exa Z h a C') : Sta Z h' Cn n d v := by
  obtain ⟨cf, i, k, f, st, cell, h1, h2, h3, h4, h5, h6, h7⟩ := F
  refine ⟨cf, i, k, f, st, cell, h1, h2, h3, h4, K.2.1 st cell h5 (fun q => ?_), h6, h7⟩
  obtain ⟨C', cell', k', e1, -, -, e4, -⟩ := hws st q
  cases h5.symm.trans e1
  rw [h6] at e4; cases e4
/-- the class named c has no superclass named K (itself neither) -/
def OwnNsub (Z : State) (c K : String) : Prop := ∀ (ci ki : ClassId), Z.vm.findClass c = some ci → Z.vm.findClass K = some ki → ∀ fuel, Z.vm.isSubclassAux fuel ci ki = false
theorem own_id_ne {c K : String} {ci ki : ClassId} (h1 : Z.vm.findClass c = some ci) (h2 : Z.vm.findClass K = some ki) (hn : c ≠ K) : (ci == ki) = false := by
  rw [beq_eq_false_iff_ne]
  rintro rfl
  obtain ⟨k1, a1, b1⟩ := Vm.findClass_spec h1
  obtain ⟨k2, a2, b2⟩ := Vm.findClass_spec h2
  cases a1.symm.trans a2
  exact hn (b1.symm.trans b2)
theorem own_nsub_root {c K : String} (w : (Cond.noSuperclass c).before a0 Z = true) (hn : c ≠ K) : OwnNsub Z c K := by
  intro ci ki h1 h2 fuel
  cases fuel with
  | zero => rfl
  | succ n =>
    obtain ⟨k1, a1, b1⟩ := Vm.findClass_spec h1
    have hs := Cond.noSuperclass_root w ci k1 h1 a1
    simp [Vm.isSubclassAux, own_id_ne h1 h2 hn, a1, hs]
theorem own_nsub_up {c d K : String} (w : (Cond.superclass c d).before a0 Z = true) (hn : c ≠ K) (N : OwnNsub Z d K) : OwnNsub Z c K := by
  intro ci ki h1 h2 fuel
  cases fuel with
  | zero => rfl
  | succ n =>
    obtain ⟨pi, k, kp, g1, g2, g3, g4, -⟩ := Cond.superclass_spec h1 w
    simp [Vm.isSubclassAux, own_id_ne h1 h2 hn, g2, g4, N pi ki g1 h2 n]
theorem own_nins {a : Addr} {c d K : String} {kk : Nat} (E : Exa Z h a c) (wi : (Cond.instantiable K kk).before a0 Z = true) (wsup : (Cond.superclass c d).before a0 Z = true) (hn : c ≠ K) (N : OwnNsub Z c K) : Ins Z h a K false := by
  obtain ⟨cell, k, h1, h2, h3, h4, -⟩ := E
  obtain ⟨ki, kt, i1, i2, i3, i4, -⟩ := Cond.instantiable_spec wi
  obtain ⟨pi, k', kp, g1, g2, g3, g4, g5, -⟩ := Cond.superclass_spec h2 wsup
  cases h3.symm.trans g2
  refine ⟨cell, ki, h1, i1, ?_⟩
  have hif : kt.isInterface = false := by simp only [Bool.or_eq_false_iff] at i4; exact i4.1
  simp [h4, Vm.assignable, Vm.assignableAux, own_id_ne h2 i1 hn, h3, i2, g5, i3, hif, Vm.isSubclass, N cell.cls ki h2 i1]
end OwnGo
/-! own kit, for walks that may load String constants -/
section OwnWide
variable {p : Program} {l : Launch} {e : Env} {R : Room} {s : State} {m : MethodId} {args : Array Value} {below : List Frame} {meth : Method} {c : Code} {T : State} {locs : List Loc} {cells slots : Nat} {Z : State} {a0 : Array Value} {h : Heap} {Q : Option Value → Heap → List Loc → Prop} {C S : Nat} {End : Outcome → State → List Loc → Prop} {vm0 : Vm} {k0 : Nat}
abbrev OwnMetW (l : Launch) (Z : State) (y : MethodName) (bytes : ByteArray) (maxL : Nat) (ret : Option FieldType) (ws : List Jvm.Cond) (rm : Room) (as' : Array Value) (h0 : Heap) (Q : Option Value → Heap → List Loc → Prop) : Prop :=
  MetFree l y (head1 (Jvm.Cond.code y bytes maxL ret :: ws) rm) (fun a U => a = as' ∧ Z.Warmed39 U.vm ∧ U.heap = h0) (fun _ _ _ _ _ => True) (fun _ U o U' => ∃ v L, o = .returned v ∧ Q v U'.heap L ∧ ReturnedEndW U o U' L rm.cells rm.slots)
theorem own_bodyW {y : MethodName} {bytes : ByteArray} {maxL : Nat} {ret : Option FieldType} {ws : List Jvm.Cond} {rm : Room} {as' : Array Value} {h0 : Heap} (hpl : plainFor y = true)
    (k : ∀ (p : Program) (e : Env) (s : State) (m : MethodId) (below : List Frame) (meth : Method) (c : Code) (s₁ : State), Stand p l e rm (s.setVm s.vm) m as' below meth c s₁ [] 0 0 → p.tables.exec = Jvm.exec → c.code = bytes → c.maxLocals = maxL → meth.sig.returnType = ret → meth.locks = false → (s.setVm s.vm).vm.findClass y.cls = some m.cls → meth.name = y.name → Z.Warmed39 (s.setVm s.vm).vm → s₁.heap = h0 → s.heap = h0 → s.Since s.vm h0.size → Go p e below (EndW s rm.cells rm.slots) Q s₁ (entryFrame m as' maxL)) :
    OwnMetW l Z y bytes maxL ret ws rm as' h0 Q := by
  refine MetFree.of_bodySF hpl hisR ?_
  intro p e s m args below meth c s₁ Bd hml0 hP hK
  obtain ⟨rfl, hZ, hh⟩ := hP
  exact k p e s m below meth c s₁ (Stand.of_body Bd) Bd.exec Bd.bytes hml0 Bd.returns Bd.notSynchronized (findClass_of_methodNamed Bd.named) (name_of_methodNamed Bd.named Bd.method).1 hZ (by rw [← hh, Bd.state]; rfl) hh ((State.WarmedH.refl s).since _)
theorem own_lvW (X : Stand p l e R (s.setVm vm0) m args below meth c T locs cells slots) (hlk : meth.locks = false) (hS : s.Since vm0 k0) (hk : k0 ≤ T.heap.size) (hC : cells ≤ C) (hSl : slots ≤ S) : Leaves e below m meth T locs (EndW s C S) := fun v hv => by
  obtain ⟨fs, hr, hrun, hended, hE⟩ := X.leaveW hS hk hv hlk
  exact ⟨fs, hr, hrun, hended, hE.1, hE.2.1, hE.2.2.1, hE.2.2.2.mono hC hSl⟩
theorem own_callSW (X : Stand p l e R (s.setVm vm0) m args below meth c T locs cells slots) (hx : p.tables.exec = Jvm.exec) (hZ : Z.Warmed39 (s.setVm vm0).vm) (hS : s.Since vm0 k0) {own : String} {index : Nat} {y : MethodName} {bytes : ByteArray} {maxL : Nat} {ret : Option FieldType} {rm : Room} {as' : Array Value} {Qc : Option Value → Heap → List Loc → Prop}
    (hown : (s.setVm vm0).vm.findClass own = some m.cls) (wl : (Cond.methodLink own index y).before a0 Z = true) (wst : (Cond.static y).before a0 Z = true) (wi : (Cond.initialized y.cls).before a0 Z = true) (wc : (Cond.code y bytes maxL ret).before a0 Z = true)
    (hy : y.cls ≠ "java/lang/invoke/MethodHandle" ∧ y.cls ≠ "java/lang/invoke/VarHandle")
    (hM : MetFree l y (head1 [Cond.code y bytes maxL ret] rm) (fun a U => a = as' ∧ Z.Warmed39 U.vm ∧ U.heap = h) (fun _ _ _ _ _ => True) (fun _ U o U' => ∃ v L, o = .returned v ∧ Qc v U'.heap L ∧ ReturnedEndW U o U' L rm.cells rm.slots))
    (eT : T.heap = h) (hk : k0 ≤ h.size) {pc : Nat} {Ls : Array Slot} (hsize : Ls.size = c.maxLocals) {argsL rest stk : List Value} (hst : stk = argsL.reverse ++ rest) (ha : argsL.toArray = as') (hlen : ∀ sig, parseMethodDescriptor y.desc = some sig → argsL.length = sig.parameters.length) {W : Nat} (hW : (rest.map fun v => v.category).sum ≤ W)
    (hf : rm.frames + 1 ≤ R.frames) (hl : W + (maxL + 11) + rm.locals ≤ R.locals) (hd : decode c.code pc = .ok (.invokestatic index, 3)) (hc : cells + rm.cells ≤ R.cells) (hs : slots + rm.slots ≤ R.slots)
    (k : ∀ (v : Option Value) (T' : State) (L : List Loc), Stand p l e R (s.setVm T'.vm) m args below meth c T' (locs ++ L) (cells + rm.cells) (slots + rm.slots) → s.Since T'.vm T'.heap.size → Z.Warmed39 (s.setVm T'.vm).vm → (s.setVm T'.vm).vm.findClass own = some m.cls → Qc v T'.heap L → Go p e below End Q T' (mkF m (pc + 3) Ls (v.toList ++ rest))) :
    Go p e below End Q T (mkF m pc Ls stk) := by
  subst hst
  obtain ⟨v, _, ⟨T', L', k', n'⟩, -, X', hS2, hgr, ⟨Lc, hQ, l1, y1, z1⟩, st⟩ := callSS X hx (y := y) hown (mvT hZ wl) (mvT hZ wst) (mvT hZ wi) (mvT hZ wc) hy (backOfS (W := W) hM hZ wc wi hf hl) (g := mkF m pc Ls (argsL.reverse ++ rest)) rfl hsize (argsL := argsL) (rest := rest) hlen rfl (by show 2 * 0 + _ ≤ _; rw [Nat.mul_zero, Nat.zero_add]; exact hW) hd (fun _ _ => ⟨ha, eT, hc, hs⟩)
  dsimp only [Pt.U, Pt.locs, Pt.cells, Pt.slots] at X' hS2 hgr l1 y1 z1 st hQ
  subst l1 y1 z1
  obtain ⟨X2, hS3, hZ2, hown2⟩ := rebS hS (eT ▸ hk) X' hS2 hgr hZ hown
  exact own_go (fun t q => st.trans q) (k v T' Lc X2 hS3 hZ2 hown2 hQ)
theorem own_callIW (X : Stand p l e R (s.setVm vm0) m args below meth c T locs cells slots) (hx : p.tables.exec = Jvm.exec) (hZ : Z.Warmed39 (s.setVm vm0).vm) (hS : s.Since vm0 k0) {own : String} {index : Nat} {y : MethodName} {bytes : ByteArray} {maxL : Nat} {rm : Room} {as' : Array Value} {Qc : Option Value → Heap → List Loc → Prop} (hy1 : y.name = "<init>")
    (hown : (s.setVm vm0).vm.findClass own = some m.cls) (wl : (Cond.methodLink own index y).before a0 Z = true) (win : (Cond.instanceMethod y).before a0 Z = true) (wc : (Cond.code y bytes maxL none).before a0 Z = true) (wi : (Cond.initialized y.cls).before a0 Z = true)
    (hy : y.cls ≠ "java/lang/invoke/MethodHandle" ∧ y.cls ≠ "java/lang/invoke/VarHandle")
    (hM : MetFree l y (head1 [Cond.code y bytes maxL none] rm) (fun a U => a = as' ∧ Z.Warmed39 U.vm ∧ U.heap = h) (fun _ _ _ _ _ => True) (fun _ U o U' => ∃ v L, o = .returned v ∧ Qc v U'.heap L ∧ ReturnedEndW U o U' L rm.cells rm.slots))
    (eT : T.heap = h) (hk : k0 ≤ h.size) {b : Addr} {pc : Nat} {Ls : Array Slot} (hsize : Ls.size = c.maxLocals) {argsL rest stk : List Value} (hst : stk = argsL.reverse ++ .ref b :: rest) (ha : (.ref b :: argsL).toArray = as') (hlen : ∀ sig, parseMethodDescriptor y.desc = some sig → argsL.length = sig.parameters.length) {W : Nat} (hW : (rest.map fun v => v.category).sum ≤ W)
    (hf : rm.frames + 1 ≤ R.frames) (hl : W + (maxL + 11) + rm.locals ≤ R.locals) (hd : decode c.code pc = .ok (.invokespecial index, 3)) (hc : cells + rm.cells ≤ R.cells) (hs : slots + rm.slots ≤ R.slots)
    (k : ∀ (v : Option Value) (T' : State) (L : List Loc), Stand p l e R (s.setVm T'.vm) m args below meth c T' (locs ++ L) (cells + rm.cells) (slots + rm.slots) → s.Since T'.vm T'.heap.size → Z.Warmed39 (s.setVm T'.vm).vm → (s.setVm T'.vm).vm.findClass own = some m.cls → Qc v T'.heap L → Go p e below End Q T' (mkF m (pc + 3) Ls (v.toList ++ rest))) :
    Go p e below End Q T (mkF m pc Ls stk) := by
  subst hst
  obtain ⟨v, _, ⟨T', L', k', n'⟩, -, X', hS2, hgr, ⟨Lc, hQ, l1, y1, z1⟩, st⟩ := X.specialBackS hx (y := y) hy1 hown (mvT hZ wl) (mvT hZ win) (mvT hZ wc) hy (backOfS (W := W) hM hZ wc wi hf hl) (g := mkF m pc Ls (argsL.reverse ++ .ref b :: rest)) rfl hsize (Steps.refl _) (a := b) (argsL := argsL) (rest := rest) hlen rfl (by show 2 * 0 + _ ≤ _; rw [Nat.mul_zero, Nat.zero_add]; exact hW) hd (fun _ _ => ⟨ha, eT, hc, hs⟩)
  dsimp only [Pt.U, Pt.locs, Pt.cells, Pt.slots] at X' hS2 hgr l1 y1 z1 st hQ
  subst l1 y1 z1
  obtain ⟨X2, hS3, hZ2, hown2⟩ := rebS hS (eT ▸ hk) X' hS2 hgr hZ hown
  exact own_go (fun t q => st.trans q) (k v T' Lc X2 hS3 hZ2 hown2 hQ)
theorem own_callVW (X : Stand p l e R (s.setVm vm0) m args below meth c T locs cells slots) (hx : p.tables.exec = Jvm.exec) (hZ : Z.Warmed39 (s.setVm vm0).vm) (hS : s.Since vm0 k0) {own Cn : String} {index : Nat} {y : MethodName} {bytes : ByteArray} {maxL : Nat} {ret : Option FieldType} {rm : Room} {as' : Array Value} {Qc : Option Value → Heap → List Loc → Prop}
    (hown : (s.setVm vm0).vm.findClass own = some m.cls) (wl : (Cond.methodLink own index y).before a0 Z = true) (wd : (Cond.declares y).before a0 Z = true) (wsel : (Cond.selects Cn y y).before a0 Z = true) (win : (Cond.instanceMethod y).before a0 Z = true) (wc : (Cond.code y bytes maxL ret).before a0 Z = true) (wi : (Cond.initialized y.cls).before a0 Z = true)
    (hy : y.cls ≠ "java/lang/invoke/MethodHandle" ∧ y.cls ≠ "java/lang/invoke/VarHandle")
    (hM : MetFree l y (head1 [Cond.code y bytes maxL ret] rm) (fun a U => a = as' ∧ Z.Warmed39 U.vm ∧ U.heap = h) (fun _ _ _ _ _ => True) (fun _ U o U' => ∃ v L, o = .returned v ∧ Qc v U'.heap L ∧ ReturnedEndW U o U' L rm.cells rm.slots))
    (eT : T.heap = h) (hk : k0 ≤ h.size) {b : Addr} (E : Exa Z h b Cn) {pc : Nat} {Ls : Array Slot} (hsize : Ls.size = c.maxLocals) {argsL rest stk : List Value} (hst : stk = argsL.reverse ++ .ref b :: rest) (ha : (.ref b :: argsL).toArray = as') (hlen : ∀ sig, parseMethodDescriptor y.desc = some sig → argsL.length = sig.parameters.length) {W : Nat} (hW : (rest.map fun v => v.category).sum ≤ W)
    (hf : rm.frames + 1 ≤ R.frames) (hl : W + (maxL + 11) + rm.locals ≤ R.locals) (hd : decode c.code pc = .ok (.invokevirtual index, 3)) (hc : cells + rm.cells ≤ R.cells) (hs : slots + rm.slots ≤ R.slots)
    (k : ∀ (v : Option Value) (T' : State) (L : List Loc), Stand p l e R (s.setVm T'.vm) m args below meth c T' (locs ++ L) (cells + rm.cells) (slots + rm.slots) → s.Since T'.vm T'.heap.size → Z.Warmed39 (s.setVm T'.vm).vm → (s.setVm T'.vm).vm.findClass own = some m.cls → Qc v T'.heap L → Go p e below End Q T' (mkF m (pc + 3) Ls (v.toList ++ rest))) :
    Go p e below End Q T (mkF m pc Ls stk) := by
  subst hst
  obtain ⟨cq, kq, qa, qb, qc⟩ := isOf hZ eT E
  obtain ⟨v, _, ⟨T', L', k', n'⟩, -, X', hS2, hgr, ⟨Lc, hQ, l1, y1, z1⟩, st⟩ := X.virtualBackS hx (y := y) (z := y) hown (mvT hZ wl) (mvT hZ wd) (notFace_of_selects (args := #[]) (mvT hZ wsel)) (mvT hZ wsel) (mvT hZ win) hy (backOfS (W := W) hM hZ wc wi hf hl) qa qc (g := mkF m pc Ls (argsL.reverse ++ .ref b :: rest)) rfl hsize (Steps.refl _) (argsL := argsL) (rest := rest) hlen rfl (by show 2 * 0 + _ ≤ _; rw [Nat.mul_zero, Nat.zero_add]; exact hW) hd (fun _ _ => ⟨ha, eT, hc, hs⟩)
  dsimp only [Pt.U, Pt.locs, Pt.cells, Pt.slots] at X' hS2 hgr l1 y1 z1 st hQ
  subst l1 y1 z1
  obtain ⟨X2, hS3, hZ2, hown2⟩ := rebS hS (eT ▸ hk) X' hS2 hgr hZ hown
  exact own_go (fun t q => st.trans q) (k v T' Lc X2 hS3 hZ2 hown2 hQ)
end OwnWide
theorem own_wS {Z : State} {a0 : Array Value} (hw : ∀ d ∈ tables_1, d.before a0 Z = true) : ∀ a ∈ Bundle.stringAtoms, a.before a0 Z = true := by
  intro d hd
  simp only [Bundle.stringAtoms, List.mem_cons, List.not_mem_nil, or_false] at hd
  rcases hd with rfl | rfl | rfl | rfl | rfl | rfl | rfl
  · exact hw _ (List.mem_of_getElem? (i := 18) rfl)
  · exact hw _ (List.mem_of_getElem? (i := 19) rfl)
  · exact hw _ (List.mem_of_getElem? (i := 20) rfl)
  · exact hw _ (List.mem_of_getElem? (i := 21) rfl)
  · exact hw _ (List.mem_of_getElem? (i := 22) rfl)
  · exact hw _ (List.mem_of_getElem? (i := 23) rfl)
  · exact hw _ (List.mem_of_getElem? (i := 24) rfl)
theorem own_int {i j : Int32} (h : i.toInt = j.toInt) : i = j := Int32.toInt_inj.mp h
theorem own_and3 (x : Int32) : (x &&& (3 : Int32)) = 0 ∨ (x &&& (3 : Int32)) = 1 ∨ (x &&& (3 : Int32)) = 2 ∨ (x &&& (3 : Int32)) = 3 := by
  have h := c_and x (3 : Int32) (by decide)
  have h3 : (3 : Int32).toInt = 3 := by decide
  rw [h3] at h
  generalize (x &&& (3 : Int32)) = i at h
  have q : i.toInt = 0 ∨ i.toInt = 1 ∨ i.toInt = 2 ∨ i.toInt = 3 := by omega
  rcases q with q | q | q | q
  · exact Or.inl (own_int q)
  · exact Or.inr (Or.inl (own_int q))
  · exact Or.inr (Or.inr (Or.inl (own_int q)))
  · exact Or.inr (Or.inr (Or.inr (own_int q)))
theorem own_and1 (x : Int32) : (x &&& (1 : Int32)) = 0 ∨ (x &&& (1 : Int32)) = 1 := by
  have h := c_and x (1 : Int32) (by decide)
  have h3 : (1 : Int32).toInt = 1 := by decide
  rw [h3] at h
  generalize (x &&& (1 : Int32)) = i at h
  have q : i.toInt = 0 ∨ i.toInt = 1 := by omega
  rcases q with q | q
  · exact Or.inl (own_int q)
  · exact Or.inr (own_int q)
theorem own_rem6 (x : Int32) : ((x &&& (2147483647 : Int32)) % (6 : Int32)) = 0 ∨ ((x &&& (2147483647 : Int32)) % (6 : Int32)) = 1 ∨ ((x &&& (2147483647 : Int32)) % (6 : Int32)) = 2 ∨ ((x &&& (2147483647 : Int32)) % (6 : Int32)) = 3 ∨ ((x &&& (2147483647 : Int32)) % (6 : Int32)) = 4 ∨ ((x &&& (2147483647 : Int32)) % (6 : Int32)) = 5 := by
  have h := (c_and x (2147483647 : Int32) (by decide)).1
  generalize (x &&& (2147483647 : Int32)) = y at h
  have h2 := (c_irem y (6 : Int32) 6 (by decide)).1 h
  generalize (y % (6 : Int32)) = i at h2
  have q : i.toInt = 0 ∨ i.toInt = 1 ∨ i.toInt = 2 ∨ i.toInt = 3 ∨ i.toInt = 4 ∨ i.toInt = 5 := by omega
  rcases q with q | q | q | q | q | q
  · exact Or.inl (own_int q)
  · exact Or.inr (Or.inl (own_int q))
  · exact Or.inr (Or.inr (Or.inl (own_int q)))
  · exact Or.inr (Or.inr (Or.inr (Or.inl (own_int q))))
  · exact Or.inr (Or.inr (Or.inr (Or.inr (Or.inl (own_int q)))))
  · exact Or.inr (Or.inr (Or.inr (Or.inr (Or.inr (own_int q)))))
theorem own_rem5 (x : Int32) : ((x &&& (2147483647 : Int32)) % (5 : Int32)) = 0 ∨ ((x &&& (2147483647 : Int32)) % (5 : Int32)) = 1 ∨ ((x &&& (2147483647 : Int32)) % (5 : Int32)) = 2 ∨ ((x &&& (2147483647 : Int32)) % (5 : Int32)) = 3 ∨ ((x &&& (2147483647 : Int32)) % (5 : Int32)) = 4 := by
  have h := (c_and x (2147483647 : Int32) (by decide)).1
  generalize (x &&& (2147483647 : Int32)) = y at h
  have h2 := (c_irem y (5 : Int32) 5 (by decide)).1 h
  generalize (y % (5 : Int32)) = i at h2
  have q : i.toInt = 0 ∨ i.toInt = 1 ∨ i.toInt = 2 ∨ i.toInt = 3 ∨ i.toInt = 4 := by omega
  rcases q with q | q | q | q | q
  · exact Or.inl (own_int q)
  · exact Or.inr (Or.inl (own_int q))
  · exact Or.inr (Or.inr (Or.inl (own_int q)))
  · exact Or.inr (Or.inr (Or.inr (Or.inl (own_int q))))
  · exact Or.inr (Or.inr (Or.inr (Or.inr (own_int q))))
theorem own_and2 (x : Int32) : (x &&& (2 : Int32)) = 0 ∨ (x &&& (2 : Int32)) = 2 := by
  have h : (x &&& (2 : Int32)) = (x &&& (3 : Int32)) &&& (2 : Int32) := by rw [Int32.and_assoc]; rfl
  rw [h]
  rcases own_and3 x with q | q | q | q <;> rw [q] <;> decide

def OwnCache (Z : State) (h : Heap) (ca : Addr) : Prop := ∃ cl : Cell, Arr Z h ca cl (.object "java/lang/Integer") ∧ cl.slots.size = 256 ∧ ∀ i, i < 256 → ∃ b, cl.slots[i]? = some (.ref b) ∧ Exa Z h b "java/lang/Integer"
section OwnC
variable {Z : State} {h h' : Heap} {ca a : Addr} {sl : Nat} {v : Value} {ws : List Addr}
theorem OwnCache.lt (F : OwnCache Z h ca) : ca < h.size := by obtain ⟨cl, A, -⟩ := F; exact A.lt
theorem OwnCache.ext (F : OwnCache Z h ca) (E : Ext h h') : OwnCache Z h' ca := by
  obtain ⟨cl, A, s, g⟩ := F
  exact ⟨cl, A.ext E, s, fun i hi => by obtain ⟨b, q, e⟩ := g i hi; exact ⟨b, q, e.ext E⟩⟩
theorem OwnCache.other (F : OwnCache Z h ca) (W : Wr h h' a sl v) (q : ¬ ca = a) : OwnCache Z h' ca := by
  obtain ⟨cl, A, s, g⟩ := F
  exact ⟨cl, A.other W q, s, fun i hi => by obtain ⟨b, q, e⟩ := g i hi; exact ⟨b, q, e.wr W⟩⟩
theorem OwnCache.keep (F : OwnCache Z h ca) (K : Keep h h' ws) (q : ca ∉ ws) : OwnCache Z h' ca := by
  obtain ⟨cl, A, s, g⟩ := F
  exact ⟨cl, ⟨K.2.1 ca cl A.1 q, A.2⟩, s, fun i hi => by obtain ⟨b, q, e⟩ := g i hi; exact ⟨b, q, e.keep K⟩⟩
theorem own_cidx (p1 : Int32) (h1 : ¬ p1 < (-128 : Int32)) (h2 : ¬ (127 : Int32) < p1) : ¬ (p1 + (128 : Int32)) < 0 ∧ (p1 + (128 : Int32)).toNatClampNeg < 256 := by
  have k1 : (-128 : Int32).toInt = -128 := by decide
  have k2 : (127 : Int32).toInt = 127 := by decide
  have k3 : (128 : Int32).toInt = 128 := by decide
  have k4 : (0 : Int32).toInt = 0 := by decide
  rw [Int32.lt_iff_toInt_lt, k1] at h1
  rw [Int32.lt_iff_toInt_lt, k2] at h2
  have e : (p1 + (128 : Int32)).toInt = p1.toInt + 128 := by
    rw [Int32.toInt_add, k3]
    exact Int.bmod_eq_of_le (by omega) (by omega)
  refine ⟨by rw [Int32.lt_iff_toInt_lt, k4, e]; omega, ?_⟩
  have q : (p1 + (128 : Int32)).toNatClampNeg = (p1 + (128 : Int32)).toInt.toNat := rfl
  rw [q, e]; omega
theorem own_high {args : Array Value} {C n d : String} {k : Int32} (hx : (Cond.eq (.static C n d) (.int k)).value args Z none Z [] = some true) : (Term.static C n d).eval args Z none [] Z = some (.int k) := own_eqI hx
theorem own_elem {args : Array Value} {C n d : String} {cl : Cell} {i : Nat} {v : Value} (eca : (Term.static C n d).eval args Z none [] Z = some (.ref ca)) (hc : Z.heap[ca]? = some cl) (hi : i < 2147483648) (h : (Term.elem (Term.static C n d) (.index 0)).eval args Z none [i] Z = some v) : cl.slots[i]? = some v := by
  have eT : (Term.static C n d).eval args Z none [i] Z = some (.ref ca) := eca
  have ei : (Term.index 0).eval args Z none [i] Z = some (.int i.toInt32) := rfl
  have q := (elem_in h eT ei hc).2
  have e : i.toInt32.toNatClampNeg = i := by
    have e1 : i.toInt32.toNatClampNeg = i.toInt32.toInt.toNat := rfl
    rw [e1, len_toInt hi]; rfl
  rw [e] at q
  exact q
theorem own_exat {args : Array Value} {t : Term} {C : String} {idx : List Nat} (hx : (Cond.exactly t C).value args Z none Z idx = some true) : ∃ b, t.eval args Z none idx Z = some (.ref b) ∧ Exa Z Z.heap b C := by
  obtain ⟨a', c', cell, k, e1, e2, e3, e4, e5, rfl, e7⟩ := Cond.exactly_spec (beq_iff_eq.mpr hx : (Cond.exactly t C).holds args Z none Z idx = true)
  exact ⟨a', e1, cell, k, e3, e2, e4, e5, e7⟩
theorem own_cache {args : Array Value} {C n d : String} {c2 : Cond} (eca : (Term.static C n d).eval args Z none [] Z = some (.ref ca)) (hA : (Cond.arrayOf (Term.static C n d) (.object "java/lang/Integer")).value args Z none Z [] = some true)
    (hL : (Cond.eq (.length (Term.static C n d)) (.int 256)).value args Z none Z [] = some true) (hAll : (Cond.all (Term.static C n d) (.and (.exactly (.elem (Term.static C n d) (.index 0)) "java/lang/Integer") c2)).value args Z none Z [] = some true) : OwnCache Z Z.heap ca := by
  obtain ⟨cl, A⟩ := Arr.start eca hA
  have hat : Z.arrayAt? ca = some cl := Arr.fin (Vm.Alike.refl _) A
  obtain ⟨hsz, -⟩ := own_len (n := 256) eca hat hL (by decide)
  refine ⟨cl, A, hsz, fun i hi => ?_⟩
  have hel := Cond.all_elim eca hat hAll i (by omega)
  obtain ⟨g1, -⟩ := and_e hel
  obtain ⟨b, e, E⟩ := own_exat g1
  exact ⟨b, own_elem eca A.1 (by omega) e, E⟩
end OwnC

theorem d_method_2_0 : Jvm.ClassFile.decode method_2_code 0 = .ok (.iload_n 0, 1) := by decide +kernel
theorem d_method_2_1 : Jvm.ClassFile.decode method_2_code 1 = .ok (.ifCond .ne 7, 3) := by decide +kernel
theorem d_method_2_8 : Jvm.ClassFile.decode method_2_code 8 = .ok (.iload_n 0, 1) := by decide +kernel
theorem d_method_2_9 : Jvm.ClassFile.decode method_2_code 9 = .ok (.iconst 1, 1) := by decide +kernel
theorem d_method_2_10 : Jvm.ClassFile.decode method_2_code 10 = .ok (.if_icmp .ne 7, 3) := by decide +kernel
theorem d_method_2_17 : Jvm.ClassFile.decode method_2_code 17 = .ok (.iload_n 0, 1) := by decide +kernel
theorem d_method_2_18 : Jvm.ClassFile.decode method_2_code 18 = .ok (.iconst 2, 1) := by decide +kernel
theorem d_method_2_19 : Jvm.ClassFile.decode method_2_code 19 = .ok (.if_icmp .ne 7, 3) := by decide +kernel
theorem d_method_2_26 : Jvm.ClassFile.decode method_2_code 26 = .ok (.iload_n 0, 1) := by decide +kernel
theorem d_method_2_27 : Jvm.ClassFile.decode method_2_code 27 = .ok (.iconst 3, 1) := by decide +kernel
theorem d_method_2_28 : Jvm.ClassFile.decode method_2_code 28 = .ok (.if_icmp .ne 7, 3) := by decide +kernel
theorem d_method_2_35 : Jvm.ClassFile.decode method_2_code 35 = .ok (.getstatic 22, 3) := by decide +kernel
theorem d_method_2_38 : Jvm.ClassFile.decode method_2_code 38 = .ok (.areturn, 1) := by decide +kernel
theorem d_method_2_31 : Jvm.ClassFile.decode method_2_code 31 = .ok (.getstatic 19, 3) := by decide +kernel
theorem d_method_2_34 : Jvm.ClassFile.decode method_2_code 34 = .ok (.areturn, 1) := by decide +kernel
theorem d_method_2_22 : Jvm.ClassFile.decode method_2_code 22 = .ok (.getstatic 16, 3) := by decide +kernel
theorem d_method_2_25 : Jvm.ClassFile.decode method_2_code 25 = .ok (.areturn, 1) := by decide +kernel
theorem d_method_2_13 : Jvm.ClassFile.decode method_2_code 13 = .ok (.getstatic 13, 3) := by decide +kernel
theorem d_method_2_16 : Jvm.ClassFile.decode method_2_code 16 = .ok (.areturn, 1) := by decide +kernel
theorem d_method_2_4 : Jvm.ClassFile.decode method_2_code 4 = .ok (.getstatic 7, 3) := by decide +kernel
theorem d_method_2_7 : Jvm.ClassFile.decode method_2_code 7 = .ok (.areturn, 1) := by decide +kernel
def own_kind (p1 : Int32) (w_LONE_LOW_SURROGATE : Addr) (w_HIGH_SURROGATE_AT_END : Addr) (w_REVERSED_BYTE_ORDER_MARK : Addr) (w_ODD_TRAILING_BYTE : Addr) (w_UNPAIRED_HIGH_SURROGATE : Addr) : Value := (if p1 = (0 : Int32) then (.ref w_LONE_LOW_SURROGATE : Value) else (if p1 = (1 : Int32) then (.ref w_UNPAIRED_HIGH_SURROGATE : Value) else (if p1 = (2 : Int32) then (.ref w_HIGH_SURROGATE_AT_END : Value) else (if p1 = (3 : Int32) then (.ref w_ODD_TRAILING_BYTE : Value) else (.ref w_REVERSED_BYTE_ORDER_MARK : Value)))))
theorem own_pn0 : plainName "com/example/pair16/pair16/Utf16FaultEqualsPinLaw" = true := by first | (simp [plainName, overriddenIn]; done) | decide +kernel
theorem own_ef_rm_kind (m : MethodId) (x0 : Int32) : entryFrame m #[(.int x0)] 1 = mkF m 0 #[.val (.int x0)] [] := by first | (simp [entryFrame, mkF, argsToLocals, Value.category]; done) | rfl
set_option maxRecDepth 65536 in
set_option maxHeartbeats 40000000 in
theorem rm_kind (l : Launch) (Z : State) (a0 : Array Value) (hw : ∀ d ∈ tables_1, d.before a0 Z = true) (ws : List Jvm.Cond) (p1 : Int32) (w_LONE_LOW_SURROGATE : Addr) (w_HIGH_SURROGATE_AT_END : Addr) (w_REVERSED_BYTE_ORDER_MARK : Addr) (w_ODD_TRAILING_BYTE : Addr) (w_UNPAIRED_HIGH_SURROGATE : Addr) (r : Value) (h0 : Heap) (n0 : Nat) (hn0 : n0 ≤ h0.size) (S_LONE_LOW_SURROGATE : Sta Z h0 "com/example/pair16/pair16/Utf16Fault$Kind" "LONE_LOW_SURROGATE" "Lcom/example/pair16/pair16/Utf16Fault$Kind;" (.ref w_LONE_LOW_SURROGATE)) (S_HIGH_SURROGATE_AT_END : Sta Z h0 "com/example/pair16/pair16/Utf16Fault$Kind" "HIGH_SURROGATE_AT_END" "Lcom/example/pair16/pair16/Utf16Fault$Kind;" (.ref w_HIGH_SURROGATE_AT_END)) (S_REVERSED_BYTE_ORDER_MARK : Sta Z h0 "com/example/pair16/pair16/Utf16Fault$Kind" "REVERSED_BYTE_ORDER_MARK" "Lcom/example/pair16/pair16/Utf16Fault$Kind;" (.ref w_REVERSED_BYTE_ORDER_MARK)) (S_ODD_TRAILING_BYTE : Sta Z h0 "com/example/pair16/pair16/Utf16Fault$Kind" "ODD_TRAILING_BYTE" "Lcom/example/pair16/pair16/Utf16Fault$Kind;" (.ref w_ODD_TRAILING_BYTE)) (S_UNPAIRED_HIGH_SURROGATE : Sta Z h0 "com/example/pair16/pair16/Utf16Fault$Kind" "UNPAIRED_HIGH_SURROGATE" "Lcom/example/pair16/pair16/Utf16Fault$Kind;" (.ref w_UNPAIRED_HIGH_SURROGATE)) (hr : own_kind p1 w_LONE_LOW_SURROGATE w_HIGH_SURROGATE_AT_END w_REVERSED_BYTE_ORDER_MARK w_ODD_TRAILING_BYTE w_UNPAIRED_HIGH_SURROGATE = r) :
    OwnMet l Z (⟨"com/example/pair16/pair16/Utf16FaultEqualsPinLaw", "kindOf", "(I)Lcom/example/pair16/pair16/Utf16Fault$Kind;"⟩ : MethodName) method_2_code 1 (some (.object "com/example/pair16/pair16/Utf16Fault$Kind")) ws ({ frames := 0, cells := 0, slots := 0, locals := 0 } : Room) #[(.int p1)] h0 (OwnP (some r) h0 n0) := by
  refine own_body (plainFor_of_name own_pn0) ?_
  intro p e s m below meth c s₁ X0 hx hby hml hret hlk hown0 hnm hZ e0 hs0
  have hown : s.vm.findClass "com/example/pair16/pair16/Utf16FaultEqualsPinLaw" = some m.cls := hown0
  have N0 := Fr.nil n0
  refine own_entry (own_ef_rm_kind m p1) ?_
  show Go _ _ _ _ _ s₁ (mkF m 0 #[.val (.int p1)] [])
  refine own_go (fun t k => XS.iloadN X0.here hx rfl (hb hby d_method_2_0) rfl k) ?_
  show Go _ _ _ _ _ s₁ (mkF m 1 #[.val (.int p1)] [(.int p1)])
  refine own_ifM (p1 = (0 : Int32)) X0 hx (hb hby d_method_2_1) (own_ne _ _) (by decide) (by decide) (pc' := 8) (fun hc10 => ?_) (fun hc10 => ?_)
  · skip
    show Go _ _ _ _ _ s₁ (mkF m 8 #[.val (.int p1)] [])
    refine own_go (fun t k => XS.iloadN X0.here hx rfl (hb hby d_method_2_8) rfl k) ?_
    show Go _ _ _ _ _ s₁ (mkF m 9 #[.val (.int p1)] [(.int p1)])
    refine own_go (fun t k => XS.iconst X0.here hx rfl (hb hby d_method_2_9) k) ?_
    show Go _ _ _ _ _ s₁ (mkF m 10 #[.val (.int p1)] [(.int (1 : Int32)), (.int p1)])
    refine own_icmpM (p1 = (1 : Int32)) X0 hx (hb hby d_method_2_10) (own_ne _ _) (by decide) (by decide) (pc' := 17) (fun hc11 => ?_) (fun hc11 => ?_)
    · skip
      show Go _ _ _ _ _ s₁ (mkF m 17 #[.val (.int p1)] [])
      refine own_go (fun t k => XS.iloadN X0.here hx rfl (hb hby d_method_2_17) rfl k) ?_
      show Go _ _ _ _ _ s₁ (mkF m 18 #[.val (.int p1)] [(.int p1)])
      refine own_go (fun t k => XS.iconst X0.here hx rfl (hb hby d_method_2_18) k) ?_
      show Go _ _ _ _ _ s₁ (mkF m 19 #[.val (.int p1)] [(.int (2 : Int32)), (.int p1)])
      refine own_icmpM (p1 = (2 : Int32)) X0 hx (hb hby d_method_2_19) (own_ne _ _) (by decide) (by decide) (pc' := 26) (fun hc12 => ?_) (fun hc12 => ?_)
      · skip
        show Go _ _ _ _ _ s₁ (mkF m 26 #[.val (.int p1)] [])
        refine own_go (fun t k => XS.iloadN X0.here hx rfl (hb hby d_method_2_26) rfl k) ?_
        show Go _ _ _ _ _ s₁ (mkF m 27 #[.val (.int p1)] [(.int p1)])
        refine own_go (fun t k => XS.iconst X0.here hx rfl (hb hby d_method_2_27) k) ?_
        show Go _ _ _ _ _ s₁ (mkF m 28 #[.val (.int p1)] [(.int (3 : Int32)), (.int p1)])
        refine own_icmpM (p1 = (3 : Int32)) X0 hx (hb hby d_method_2_28) (own_ne _ _) (by decide) (by decide) (pc' := 35) (fun hc13 => ?_) (fun hc13 => ?_)
        · skip
          show Go _ _ _ _ _ s₁ (mkF m 35 #[.val (.int p1)] [])
          obtain ⟨T14, X14, e14, st14⟩ := getS2 X0 hx hZ hown (host := "") (Or.inl (hw _ (List.mem_of_getElem? (i := 56) rfl))) Via.refl e0 S_REVERSED_BYTE_ORDER_MARK (g := (mkF m 35 #[.val (.int p1)] [])) rfl (hb hby d_method_2_35)
          refine own_go (fun t k => st14 t k) ?_
          show Go _ _ _ _ _ T14 (mkF m 38 #[.val (.int p1)] [(.ref w_REVERSED_BYTE_ORDER_MARK)])
          refine own_retA X14 hx (own_lvN X14 hlk (by decide) (by decide)) hret rfl rfl (hb hby d_method_2_38) ?_
          exact ⟨(by rw [← hr, own_kind, if_neg hc10, if_neg hc11, if_neg hc12, if_neg hc13]; try rfl), N0, e14⟩
        · skip
          show Go _ _ _ _ _ s₁ (mkF m 31 #[.val (.int p1)] [])
          obtain ⟨T15, X15, e15, st15⟩ := getS2 X0 hx hZ hown (host := "") (Or.inl (hw _ (List.mem_of_getElem? (i := 73) rfl))) Via.refl e0 S_ODD_TRAILING_BYTE (g := (mkF m 31 #[.val (.int p1)] [])) rfl (hb hby d_method_2_31)
          refine own_go (fun t k => st15 t k) ?_
          show Go _ _ _ _ _ T15 (mkF m 34 #[.val (.int p1)] [(.ref w_ODD_TRAILING_BYTE)])
          refine own_retA X15 hx (own_lvN X15 hlk (by decide) (by decide)) hret rfl rfl (hb hby d_method_2_34) ?_
          exact ⟨(by rw [← hr, own_kind, if_neg hc10, if_neg hc11, if_neg hc12, if_pos hc13]; try rfl), N0, e15⟩
      · skip
        show Go _ _ _ _ _ s₁ (mkF m 22 #[.val (.int p1)] [])
        obtain ⟨T16, X16, e16, st16⟩ := getS2 X0 hx hZ hown (host := "") (Or.inl (hw _ (List.mem_of_getElem? (i := 54) rfl))) Via.refl e0 S_HIGH_SURROGATE_AT_END (g := (mkF m 22 #[.val (.int p1)] [])) rfl (hb hby d_method_2_22)
        refine own_go (fun t k => st16 t k) ?_
        show Go _ _ _ _ _ T16 (mkF m 25 #[.val (.int p1)] [(.ref w_HIGH_SURROGATE_AT_END)])
        refine own_retA X16 hx (own_lvN X16 hlk (by decide) (by decide)) hret rfl rfl (hb hby d_method_2_25) ?_
        exact ⟨(by rw [← hr, own_kind, if_neg hc10, if_neg hc11, if_pos hc12]; try rfl), N0, e16⟩
    · skip
      show Go _ _ _ _ _ s₁ (mkF m 13 #[.val (.int p1)] [])
      obtain ⟨T17, X17, e17, st17⟩ := getS2 X0 hx hZ hown (host := "") (Or.inl (hw _ (List.mem_of_getElem? (i := 75) rfl))) Via.refl e0 S_UNPAIRED_HIGH_SURROGATE (g := (mkF m 13 #[.val (.int p1)] [])) rfl (hb hby d_method_2_13)
      refine own_go (fun t k => st17 t k) ?_
      show Go _ _ _ _ _ T17 (mkF m 16 #[.val (.int p1)] [(.ref w_UNPAIRED_HIGH_SURROGATE)])
      refine own_retA X17 hx (own_lvN X17 hlk (by decide) (by decide)) hret rfl rfl (hb hby d_method_2_16) ?_
      exact ⟨(by rw [← hr, own_kind, if_neg hc10, if_pos hc11]; try rfl), N0, e17⟩
  · skip
    show Go _ _ _ _ _ s₁ (mkF m 4 #[.val (.int p1)] [])
    obtain ⟨T18, X18, e18, st18⟩ := getS2 X0 hx hZ hown (host := "") (Or.inl (hw _ (List.mem_of_getElem? (i := 5) rfl))) Via.refl e0 S_LONE_LOW_SURROGATE (g := (mkF m 4 #[.val (.int p1)] [])) rfl (hb hby d_method_2_4)
    refine own_go (fun t k => st18 t k) ?_
    show Go _ _ _ _ _ T18 (mkF m 7 #[.val (.int p1)] [(.ref w_LONE_LOW_SURROGATE)])
    refine own_retA X18 hx (own_lvN X18 hlk (by decide) (by decide)) hret rfl rfl (hb hby d_method_2_7) ?_
    exact ⟨(by rw [← hr, own_kind, if_pos hc10]; try rfl), N0, e18⟩
def OwnK5 (i : Int32) : Prop := i = 0 ∨ i = 1 ∨ i = 2 ∨ i = 3 ∨ i = 4
theorem own_k5 (x : Int32) : OwnK5 ((x &&& (2147483647 : Int32)) % (5 : Int32)) := own_rem5 x
theorem own_k5u (x : Int32) : OwnK5 (((x.toUInt32 >>> ((8 : Int32) &&& 31).toUInt32).toInt32) % (5 : Int32)) := by
  have h := c_iushr x (8 : Int32) 8 (by decide) (by decide)
  have p : ((2 ^ 8 : Nat) : Int) = 256 := by decide
  rw [p] at h
  generalize ((x.toUInt32 >>> ((8 : Int32) &&& 31).toUInt32).toInt32) = y at h ⊢
  have h2 := (c_irem y (5 : Int32) 5 (by decide)).1 (by omega)
  generalize (y % (5 : Int32)) = i at h2 ⊢
  have q : i.toInt = 0 ∨ i.toInt = 1 ∨ i.toInt = 2 ∨ i.toInt = 3 ∨ i.toInt = 4 := by omega
  unfold OwnK5
  rcases q with q | q | q | q | q
  · exact Or.inl (own_int q)
  · exact Or.inr (Or.inl (own_int q))
  · exact Or.inr (Or.inr (Or.inl (own_int q)))
  · exact Or.inr (Or.inr (Or.inr (Or.inl (own_int q))))
  · exact Or.inr (Or.inr (Or.inr (Or.inr (own_int q))))
theorem own_kind_ex (i : Int32) (w_LONE_LOW_SURROGATE w_HIGH_SURROGATE_AT_END w_REVERSED_BYTE_ORDER_MARK w_ODD_TRAILING_BYTE w_UNPAIRED_HIGH_SURROGATE : Addr) (P : Addr → Prop) (h0 : P w_LONE_LOW_SURROGATE) (h1 : P w_HIGH_SURROGATE_AT_END) (h2 : P w_REVERSED_BYTE_ORDER_MARK) (h3 : P w_ODD_TRAILING_BYTE) (h4 : P w_UNPAIRED_HIGH_SURROGATE) (h : OwnK5 i) : ∃ z, own_kind i w_LONE_LOW_SURROGATE w_HIGH_SURROGATE_AT_END w_REVERSED_BYTE_ORDER_MARK w_ODD_TRAILING_BYTE w_UNPAIRED_HIGH_SURROGATE = .ref z ∧ P z := by
  rcases h with rfl | rfl | rfl | rfl | rfl
  · exact ⟨w_LONE_LOW_SURROGATE, rfl, h0⟩
  · exact ⟨w_UNPAIRED_HIGH_SURROGATE, rfl, h4⟩
  · exact ⟨w_HIGH_SURROGATE_AT_END, rfl, h1⟩
  · exact ⟨w_ODD_TRAILING_BYTE, rfl, h3⟩
  · exact ⟨w_REVERSED_BYTE_ORDER_MARK, rfl, h2⟩
theorem own_kind_inj (i j : Int32) (w_LONE_LOW_SURROGATE w_HIGH_SURROGATE_AT_END w_REVERSED_BYTE_ORDER_MARK w_ODD_TRAILING_BYTE w_UNPAIRED_HIGH_SURROGATE : Addr) (d0 : ¬ w_LONE_LOW_SURROGATE = w_HIGH_SURROGATE_AT_END) (d1 : ¬ w_LONE_LOW_SURROGATE = w_REVERSED_BYTE_ORDER_MARK) (d2 : ¬ w_LONE_LOW_SURROGATE = w_ODD_TRAILING_BYTE) (d3 : ¬ w_LONE_LOW_SURROGATE = w_UNPAIRED_HIGH_SURROGATE) (d4 : ¬ w_HIGH_SURROGATE_AT_END = w_REVERSED_BYTE_ORDER_MARK) (d5 : ¬ w_HIGH_SURROGATE_AT_END = w_ODD_TRAILING_BYTE) (d6 : ¬ w_HIGH_SURROGATE_AT_END = w_UNPAIRED_HIGH_SURROGATE) (d7 : ¬ w_REVERSED_BYTE_ORDER_MARK = w_ODD_TRAILING_BYTE) (d8 : ¬ w_REVERSED_BYTE_ORDER_MARK = w_UNPAIRED_HIGH_SURROGATE) (d9 : ¬ w_ODD_TRAILING_BYTE = w_UNPAIRED_HIGH_SURROGATE) (hi : OwnK5 i) (hj : OwnK5 j) {a b : Addr} (ha : own_kind i w_LONE_LOW_SURROGATE w_HIGH_SURROGATE_AT_END w_REVERSED_BYTE_ORDER_MARK w_ODD_TRAILING_BYTE w_UNPAIRED_HIGH_SURROGATE = .ref a) (hb : own_kind j w_LONE_LOW_SURROGATE w_HIGH_SURROGATE_AT_END w_REVERSED_BYTE_ORDER_MARK w_ODD_TRAILING_BYTE w_UNPAIRED_HIGH_SURROGATE = .ref b) (hn : ¬ i = j) : ¬ a = b := by
  rcases hi with rfl | rfl | rfl | rfl | rfl <;> rcases hj with rfl | rfl | rfl | rfl | rfl <;> first | exact absurd rfl hn | (cases Value.ref.inj ha; cases Value.ref.inj hb; first | assumption | exact fun q => d0 q.symm | exact fun q => d1 q.symm | exact fun q => d2 q.symm | exact fun q => d3 q.symm | exact fun q => d4 q.symm | exact fun q => d5 q.symm | exact fun q => d6 q.symm | exact fun q => d7 q.symm | exact fun q => d8 q.symm | exact fun q => d9 q.symm)
theorem own_kind_eq (i j : Int32) (w_LONE_LOW_SURROGATE w_HIGH_SURROGATE_AT_END w_REVERSED_BYTE_ORDER_MARK w_ODD_TRAILING_BYTE w_UNPAIRED_HIGH_SURROGATE : Addr) {a b : Addr} (ha : own_kind i w_LONE_LOW_SURROGATE w_HIGH_SURROGATE_AT_END w_REVERSED_BYTE_ORDER_MARK w_ODD_TRAILING_BYTE w_UNPAIRED_HIGH_SURROGATE = .ref a) (hb : own_kind j w_LONE_LOW_SURROGATE w_HIGH_SURROGATE_AT_END w_REVERSED_BYTE_ORDER_MARK w_ODD_TRAILING_BYTE w_UNPAIRED_HIGH_SURROGATE = .ref b) (h : i = j) : a = b := by
  subst h
  exact Value.ref.inj (ha.symm.trans hb)
theorem d_jdk_31_method_11_0 : Jvm.ClassFile.decode jdk_31_method_11_code 0 = .ok (.aload_n 0, 1) := by decide +kernel
theorem d_jdk_31_method_11_1 : Jvm.ClassFile.decode jdk_31_method_11_code 1 = .ok (.ifnonnull 12, 3) := by decide +kernel
theorem d_jdk_31_method_11_13 : Jvm.ClassFile.decode jdk_31_method_11_code 13 = .ok (.aload_n 0, 1) := by decide +kernel
theorem d_jdk_31_method_11_14 : Jvm.ClassFile.decode jdk_31_method_11_code 14 = .ok (.areturn, 1) := by decide +kernel
def own_f_rm_rnn (a1 : Addr) : Value := (.ref a1 : Value)
theorem own_pn1 : plainName "java/util/Objects" = true := by first | (simp [plainName, overriddenIn]; done) | decide +kernel
theorem own_ef_rm_rnn (m : MethodId) (x0 : Addr) (x1 : Addr) : entryFrame m #[(.ref x0), (.ref x1)] 2 = mkF m 0 #[.val (.ref x0), .val (.ref x1)] [] := by first | (simp [entryFrame, mkF, argsToLocals, Value.category]; done) | rfl
set_option maxRecDepth 65536 in
set_option maxHeartbeats 40000000 in
theorem rm_rnn (l : Launch) (Z : State) (a0 : Array Value) (hw : ∀ d ∈ tables_1, d.before a0 Z = true) (ws : List Jvm.Cond) (a1 : Addr) (a2 : Addr) (r : Value) (h0 : Heap) (n0 : Nat) (hn0 : n0 ≤ h0.size) (hr : own_f_rm_rnn a1 = r) :
    OwnMet l Z (⟨"java/util/Objects", "requireNonNull", "(Ljava/lang/Object;Ljava/lang/String;)Ljava/lang/Object;"⟩ : MethodName) jdk_31_method_11_code 2 (some (.object "java/lang/Object")) ws ({ frames := 0, cells := 0, slots := 0, locals := 0 } : Room) #[(.ref a1), (.ref a2)] h0 (OwnP (some r) h0 n0) := by
  refine own_body (plainFor_of_name own_pn1) ?_
  intro p e s m below meth c s₁ X0 hx hby hml hret hlk hown0 hnm hZ e0 hs0
  have hown : s.vm.findClass "java/util/Objects" = some m.cls := hown0
  have N0 := Fr.nil n0
  refine own_entry (own_ef_rm_rnn m a1 a2) ?_
  show Go _ _ _ _ _ s₁ (mkF m 0 #[.val (.ref a1), .val (.ref a2)] [])
  refine own_go (fun t k => XS.aloadN X0.here hx rfl (hb hby d_jdk_31_method_11_0) rfl rfl k) ?_
  show Go _ _ _ _ _ s₁ (mkF m 1 #[.val (.ref a1), .val (.ref a2)] [(.ref a1)])
  refine own_go (fun t k => XS.ifnonnullYes X0.here hx rfl (pc0 := 1) (pc' := 13) rfl (hb hby d_jdk_31_method_11_1) rfl (by decide) (by decide) k) ?_
  show Go _ _ _ _ _ s₁ (mkF m 13 #[.val (.ref a1), .val (.ref a2)] [])
  refine own_go (fun t k => XS.aloadN X0.here hx rfl (hb hby d_jdk_31_method_11_13) rfl rfl k) ?_
  show Go _ _ _ _ _ s₁ (mkF m 14 #[.val (.ref a1), .val (.ref a2)] [(.ref a1)])
  refine own_retA X0 hx (own_lvN X0 hlk (by decide) (by decide)) hret rfl rfl (hb hby d_jdk_31_method_11_14) ?_
  exact ⟨(by rw [← hr, own_f_rm_rnn]; try rfl), N0, e0⟩
def OwnQ_rm_finit (Z : State) (a1 : Addr) (p1 : Addr) (p2 : Int64) (p3 : Int32) (h0 : Heap) (n0 : Nat) (v : Option Value) (h : Heap) (L : List Loc) : Prop := v = none ∧ Fr n0 L ∧ Keep h0 h [a1] ∧ Exa Z h a1 "com/example/pair16/pair16/Utf16Fault" ∧ Fld Z h a1 "com/example/pair16/pair16/Utf16Fault" "kind" "Lcom/example/pair16/pair16/Utf16Fault$Kind;" (.ref p1) ∧ Fld Z h a1 "com/example/pair16/pair16/Utf16Fault" "offset" "J" (.long p2) ∧ Fld Z h a1 "com/example/pair16/pair16/Utf16Fault" "value" "I" (.int p3)
theorem d_prog_46_method_1_0 : Jvm.ClassFile.decode prog_46_method_1_code 0 = .ok (.aload_n 0, 1) := by decide +kernel
theorem d_prog_46_method_1_1 : Jvm.ClassFile.decode prog_46_method_1_code 1 = .ok (.invokespecial 1, 3) := by decide +kernel
theorem d_prog_46_method_1_4 : Jvm.ClassFile.decode prog_46_method_1_code 4 = .ok (.aload_n 0, 1) := by decide +kernel
theorem d_prog_46_method_1_5 : Jvm.ClassFile.decode prog_46_method_1_code 5 = .ok (.aload_n 1, 1) := by decide +kernel
theorem d_prog_46_method_1_6 : Jvm.ClassFile.decode prog_46_method_1_code 6 = .ok (.ldc 7, 2) := by decide +kernel
theorem d_prog_46_method_1_8 : Jvm.ClassFile.decode prog_46_method_1_code 8 = .ok (.invokestatic 9, 3) := by decide +kernel
theorem own_pd0 : parseMethodDescriptor "(Ljava/lang/Object;Ljava/lang/String;)Ljava/lang/Object;" = some ⟨[(.object "java/lang/Object"), (.object "java/lang/String")], some (.object "java/lang/Object")⟩ := by decide +kernel
theorem d_prog_46_method_1_11 : Jvm.ClassFile.decode prog_46_method_1_code 11 = .ok (.checkcast 15, 3) := by decide +kernel
theorem d_prog_46_method_1_14 : Jvm.ClassFile.decode prog_46_method_1_code 14 = .ok (.putfield 17, 3) := by decide +kernel
theorem d_prog_46_method_1_17 : Jvm.ClassFile.decode prog_46_method_1_code 17 = .ok (.aload_n 0, 1) := by decide +kernel
theorem d_prog_46_method_1_18 : Jvm.ClassFile.decode prog_46_method_1_code 18 = .ok (.lload_n 2, 1) := by decide +kernel
theorem d_prog_46_method_1_19 : Jvm.ClassFile.decode prog_46_method_1_code 19 = .ok (.putfield 22, 3) := by decide +kernel
theorem d_prog_46_method_1_22 : Jvm.ClassFile.decode prog_46_method_1_code 22 = .ok (.aload_n 0, 1) := by decide +kernel
theorem d_prog_46_method_1_23 : Jvm.ClassFile.decode prog_46_method_1_code 23 = .ok (.iload 4, 2) := by decide +kernel
theorem d_prog_46_method_1_25 : Jvm.ClassFile.decode prog_46_method_1_code 25 = .ok (.putfield 26, 3) := by decide +kernel
theorem d_prog_46_method_1_28 : Jvm.ClassFile.decode prog_46_method_1_code 28 = .ok (.return_, 1) := by decide +kernel
theorem own_pn2 : plainName "com/example/pair16/pair16/Utf16Fault" = true := by first | (simp [plainName, overriddenIn]; done) | decide +kernel
theorem own_ef_rm_finit (m : MethodId) (x0 : Addr) (x1 : Addr) (x2 : Int64) (x3 : Int32) : entryFrame m #[(.ref x0), (.ref x1), (.long x2), (.int x3)] 5 = mkF m 0 #[.val (.ref x0), .val (.ref x1), .val (.long x2), .second, .val (.int x3)] [] := by first | (simp [entryFrame, mkF, argsToLocals, Value.category]; done) | rfl
set_option maxRecDepth 65536 in
set_option maxHeartbeats 40000000 in
theorem rm_finit (l : Launch) (Z : State) (a0 : Array Value) (hw : ∀ d ∈ tables_1, d.before a0 Z = true) (ws : List Jvm.Cond) (a1 : Addr) (p1 : Addr) (p2 : Int64) (p3 : Int32) (h0 : Heap) (n0 : Nat) (hn0 : n0 ≤ h0.size) (E_a1 : Exa Z h0 a1 "com/example/pair16/pair16/Utf16Fault") (g_a1 : n0 ≤ a1) (F_kind : Fld Z h0 a1 "com/example/pair16/pair16/Utf16Fault" "kind" "Lcom/example/pair16/pair16/Utf16Fault$Kind;" .null) (F_offset : Fld Z h0 a1 "com/example/pair16/pair16/Utf16Fault" "offset" "J" (.long (0 : Int64))) (F_value : Fld Z h0 a1 "com/example/pair16/pair16/Utf16Fault" "value" "I" (.int (0 : Int32))) (E_p1 : Exa Z h0 p1 "com/example/pair16/pair16/Utf16Fault$Kind") (hne : ¬ p1 = a1) :
    OwnMetW l Z (⟨"com/example/pair16/pair16/Utf16Fault", "<init>", "(Lcom/example/pair16/pair16/Utf16Fault$Kind;JI)V"⟩ : MethodName) prog_46_method_1_code 5 none ws ({ frames := 1, cells := 2, slots := 20, locals := 14 } : Room) #[(.ref a1), (.ref p1), (.long p2), (.int p3)] h0 (OwnQ_rm_finit Z a1 p1 p2 p3 h0 n0) := by
  refine own_bodyW (plainFor_of_name own_pn2) ?_
  intro p e s m below meth c s₁ X0 hx hby hml hret hlk hown0 hnm hZ e0 hs0 hS
  have hown : (s.setVm s.vm).vm.findClass "com/example/pair16/pair16/Utf16Fault" = some m.cls := hown0
  have N0 := Fr.nil n0
  refine own_entry (own_ef_rm_finit m a1 p1 p2 p3) ?_
  have K0 := Keep.refl h0 [a1]
  show Go _ _ _ _ _ s₁ (mkF m 0 #[.val (.ref a1), .val (.ref p1), .val (.long p2), .second, .val (.int p3)] [])
  refine own_go (fun t k => XS.aloadN X0.here hx rfl (hb hby d_prog_46_method_1_0) rfl rfl k) ?_
  show Go _ _ _ _ _ s₁ (mkF m 1 #[.val (.ref a1), .val (.ref p1), .val (.long p2), .second, .val (.int p3)] [(.ref a1)])
  obtain ⟨T19, X19, e19, st19⟩ := initO X0 hx hZ hown (hw _ (List.mem_of_getElem? (i := 14) rfl)) (hw _ (List.mem_of_getElem? (i := 15) rfl)) (hw _ (List.mem_of_getElem? (i := 16) rfl)) e0 (g := (mkF m 1 #[.val (.ref a1), .val (.ref p1), .val (.long p2), .second, .val (.int p3)] [(.ref a1)])) rfl (by rw [hml]; rfl) rfl (hb hby d_prog_46_method_1_1) (by decide) (W := 0) (by show 2 * 0 + _ ≤ _; exact Nat.le_of_eq rfl) (by decide)
  refine own_go (fun t k => st19 t k) ?_
  show Go _ _ _ _ _ T19 (mkF m 4 #[.val (.ref a1), .val (.ref p1), .val (.long p2), .second, .val (.int p3)] [])
  refine own_go (fun t k => XS.aloadN X19.here hx rfl (hb hby d_prog_46_method_1_4) rfl rfl k) ?_
  show Go _ _ _ _ _ T19 (mkF m 5 #[.val (.ref a1), .val (.ref p1), .val (.long p2), .second, .val (.int p3)] [(.ref a1)])
  refine own_go (fun t k => XS.aloadN X19.here hx rfl (hb hby d_prog_46_method_1_5) rfl rfl k) ?_
  show Go _ _ _ _ _ T19 (mkF m 6 #[.val (.ref a1), .val (.ref p1), .val (.long p2), .second, .val (.int p3)] [(.ref p1), (.ref a1)])
  obtain ⟨a20, T20, h20, k20, X20, e20, E20, hS, hk20, hZ, hown, st20⟩ := ldcS X19 hx hZ hown (hw _ (List.mem_of_getElem? (i := 17) rfl)) (own_wS hw) e19 hS (Nat.le_refl h0.size) (g := (mkF m 6 #[.val (.ref a1), .val (.ref p1), .val (.long p2), .second, .val (.int p3)] [(.ref p1), (.ref a1)])) rfl (hb hby d_prog_46_method_1_6) (n := 16) (by decide) (by decide) (by decide) (by decide)
  replace E_a1 := E_a1.ext E20
  replace E_p1 := E_p1.ext E20
  replace F_kind := F_kind.ext E20
  replace F_offset := F_offset.ext E20
  replace F_value := F_value.ext E20
  have hn20 : n0 ≤ h20.size := Nat.le_trans hn0 E20.1
  have K20 := K0.ext E20
  refine own_go (fun t k => st20 t k) ?_
  show Go _ _ _ _ _ T20 (mkF m 8 #[.val (.ref a1), .val (.ref p1), .val (.long p2), .second, .val (.int p3)] [(.ref a20), (.ref p1), (.ref a1)])
  refine own_callS X20 hx hZ (y := (⟨"java/util/Objects", "requireNonNull", "(Ljava/lang/Object;Ljava/lang/String;)Ljava/lang/Object;"⟩ : MethodName)) hown (hw _ (List.mem_of_getElem? (i := 25) rfl)) (hw _ (List.mem_of_getElem? (i := 26) rfl)) (hw _ (List.mem_of_getElem? (i := 27) rfl)) (hw _ (List.mem_of_getElem? (i := 28) rfl)) (by decide) (rm_rnn l Z a0 hw [] p1 a20 (.ref p1) h20 n0 hn20  (by rw [own_f_rm_rnn]; try first | rfl | decide)) e20 (by rw [hml]; rfl) (argsL := [(.ref p1), (.ref a20)]) (rest := [(.ref a1)]) rfl rfl (lenOf own_pd0 rfl) (W := 1) (Nat.le_of_eq rfl) (by decide) (by decide) (hb hby d_prog_46_method_1_8) (by decide) (by decide) ?_
  intro v21 T21 L21 X21 q21
  obtain ⟨rfl, N21q, e21⟩ := q21
  have N21 := Fr.app N0 N21q
  show Go _ _ _ _ _ T21 (mkF m 11 #[.val (.ref a1), .val (.ref p1), .val (.long p2), .second, .val (.int p3)] [(.ref p1), (.ref a1)])
  obtain ⟨T22, X22, e22, st22⟩ := castY X21 hx hZ hown (hw _ (List.mem_of_getElem? (i := 29) rfl)) e21 (Ins.self E_p1) (g := (mkF m 11 #[.val (.ref a1), .val (.ref p1), .val (.long p2), .second, .val (.int p3)] [(.ref p1), (.ref a1)])) rfl rfl (hb hby d_prog_46_method_1_11)
  refine own_go (fun t k => st22 t k) ?_
  show Go _ _ _ _ _ T22 (mkF m 14 #[.val (.ref a1), .val (.ref p1), .val (.long p2), .second, .val (.int p3)] [(.ref p1), (.ref a1)])
  obtain ⟨T23, h23, X23, e23, W23, st23⟩ := putF X22 hx hZ hown (host := "") (Or.inl (hw _ (List.mem_of_getElem? (i := 31) rfl))) Via.refl e22 F_kind E_a1 (Or.inr ⟨(hw _ (List.mem_of_getElem? (i := 32) rfl)), rfl, hnm⟩) (hw _ (List.mem_of_getElem? (i := 9) rfl)) (ty := (.object "com/example/pair16/pair16/Utf16Fault$Kind")) (by decide) rfl rfl (g := (mkF m 14 #[.val (.ref a1), .val (.ref p1), .val (.long p2), .second, .val (.int p3)] [(.ref p1), (.ref a1)])) rfl rfl (hb hby d_prog_46_method_1_14)
  replace E_a1 := E_a1.wr W23
  replace E_p1 := E_p1.wr W23
  replace F_kind := F_kind.same W23
  replace F_offset := F_offset.other W23 (Or.inr (slot_ne (Or.inr (hw _ (List.mem_of_getElem? (i := 34) rfl))) (Or.inr (hw _ (List.mem_of_getElem? (i := 32) rfl))) (by decide) (t := .long) (t' := (.object "com/example/pair16/pair16/Utf16Fault$Kind")) (by decide) (by decide)))
  replace F_value := F_value.other W23 (Or.inr (slot_ne (Or.inr (hw _ (List.mem_of_getElem? (i := 36) rfl))) (Or.inr (hw _ (List.mem_of_getElem? (i := 32) rfl))) (by decide) (t := .int) (t' := (.object "com/example/pair16/pair16/Utf16Fault$Kind")) (by decide) (by decide)))
  have N23 := Fr.snoc X23 N21 g_a1
  have hn23 : n0 ≤ h23.size := Nat.le_trans hn20 (Keep.of_wr W23).1
  have hk23 := Nat.le_trans hk20 (Keep.of_wr W23).1
  have K23 := K20.wr W23 (Or.inl (List.mem_of_getElem? (i := 0) rfl))
  refine own_go (fun t k => st23 t k) ?_
  show Go _ _ _ _ _ T23 (mkF m 17 #[.val (.ref a1), .val (.ref p1), .val (.long p2), .second, .val (.int p3)] [])
  refine own_go (fun t k => XS.aloadN X23.here hx rfl (hb hby d_prog_46_method_1_17) rfl rfl k) ?_
  show Go _ _ _ _ _ T23 (mkF m 18 #[.val (.ref a1), .val (.ref p1), .val (.long p2), .second, .val (.int p3)] [(.ref a1)])
  refine own_go (fun t k => XS.lloadN X23.here hx rfl (hb hby d_prog_46_method_1_18) rfl k) ?_
  show Go _ _ _ _ _ T23 (mkF m 19 #[.val (.ref a1), .val (.ref p1), .val (.long p2), .second, .val (.int p3)] [(.long p2), (.ref a1)])
  obtain ⟨T24, h24, X24, e24, W24, st24⟩ := putF X23 hx hZ hown (host := "") (Or.inl (hw _ (List.mem_of_getElem? (i := 33) rfl))) Via.refl e23 F_offset E_a1 (Or.inr ⟨(hw _ (List.mem_of_getElem? (i := 34) rfl)), rfl, hnm⟩) (hw _ (List.mem_of_getElem? (i := 9) rfl)) (ty := .long) (by decide) rfl rfl (g := (mkF m 19 #[.val (.ref a1), .val (.ref p1), .val (.long p2), .second, .val (.int p3)] [(.long p2), (.ref a1)])) rfl rfl (hb hby d_prog_46_method_1_19)
  replace E_a1 := E_a1.wr W24
  replace E_p1 := E_p1.wr W24
  replace F_kind := F_kind.other W24 (Or.inr (slot_ne (Or.inr (hw _ (List.mem_of_getElem? (i := 32) rfl))) (Or.inr (hw _ (List.mem_of_getElem? (i := 34) rfl))) (by decide) (t := (.object "com/example/pair16/pair16/Utf16Fault$Kind")) (t' := .long) (by decide) (by decide)))
  replace F_offset := F_offset.same W24
  replace F_value := F_value.other W24 (Or.inr (slot_ne (Or.inr (hw _ (List.mem_of_getElem? (i := 36) rfl))) (Or.inr (hw _ (List.mem_of_getElem? (i := 34) rfl))) (by decide) (t := .int) (t' := .long) (by decide) (by decide)))
  have N24 := Fr.snoc X24 N23 g_a1
  have hn24 : n0 ≤ h24.size := Nat.le_trans hn23 (Keep.of_wr W24).1
  have hk24 := Nat.le_trans hk23 (Keep.of_wr W24).1
  have K24 := K23.wr W24 (Or.inl (List.mem_of_getElem? (i := 0) rfl))
  refine own_go (fun t k => st24 t k) ?_
  show Go _ _ _ _ _ T24 (mkF m 22 #[.val (.ref a1), .val (.ref p1), .val (.long p2), .second, .val (.int p3)] [])
  refine own_go (fun t k => XS.aloadN X24.here hx rfl (hb hby d_prog_46_method_1_22) rfl rfl k) ?_
  show Go _ _ _ _ _ T24 (mkF m 23 #[.val (.ref a1), .val (.ref p1), .val (.long p2), .second, .val (.int p3)] [(.ref a1)])
  refine own_go (fun t k => XS.iload X24.here hx rfl (hb hby d_prog_46_method_1_23) rfl k) ?_
  show Go _ _ _ _ _ T24 (mkF m 25 #[.val (.ref a1), .val (.ref p1), .val (.long p2), .second, .val (.int p3)] [(.int p3), (.ref a1)])
  obtain ⟨T25, h25, X25, e25, W25, st25⟩ := putF X24 hx hZ hown (host := "") (Or.inl (hw _ (List.mem_of_getElem? (i := 35) rfl))) Via.refl e24 F_value E_a1 (Or.inr ⟨(hw _ (List.mem_of_getElem? (i := 36) rfl)), rfl, hnm⟩) (hw _ (List.mem_of_getElem? (i := 9) rfl)) (ty := .int) (by decide) rfl rfl (g := (mkF m 25 #[.val (.ref a1), .val (.ref p1), .val (.long p2), .second, .val (.int p3)] [(.int p3), (.ref a1)])) rfl rfl (hb hby d_prog_46_method_1_25)
  replace E_a1 := E_a1.wr W25
  replace E_p1 := E_p1.wr W25
  replace F_kind := F_kind.other W25 (Or.inr (slot_ne (Or.inr (hw _ (List.mem_of_getElem? (i := 32) rfl))) (Or.inr (hw _ (List.mem_of_getElem? (i := 36) rfl))) (by decide) (t := (.object "com/example/pair16/pair16/Utf16Fault$Kind")) (t' := .int) (by decide) (by decide)))
  replace F_offset := F_offset.other W25 (Or.inr (slot_ne (Or.inr (hw _ (List.mem_of_getElem? (i := 34) rfl))) (Or.inr (hw _ (List.mem_of_getElem? (i := 36) rfl))) (by decide) (t := .long) (t' := .int) (by decide) (by decide)))
  replace F_value := F_value.same W25
  have N25 := Fr.snoc X25 N24 g_a1
  have hn25 : n0 ≤ h25.size := Nat.le_trans hn24 (Keep.of_wr W25).1
  have hk25 := Nat.le_trans hk24 (Keep.of_wr W25).1
  have K25 := K24.wr W25 (Or.inl (List.mem_of_getElem? (i := 0) rfl))
  refine own_go (fun t k => st25 t k) ?_
  show Go _ _ _ _ _ T25 (mkF m 28 #[.val (.ref a1), .val (.ref p1), .val (.long p2), .second, .val (.int p3)] [])
  refine own_retV X25 hx (own_lvW X25 hlk hS (by rw [e25]; exact hk25) (by decide) (by decide)) hret (hb hby d_prog_46_method_1_28) ?_
  rw [e25]
  exact ⟨rfl, N25, K25, E_a1, F_kind, F_offset, F_value⟩
theorem d_jdk_18_method_1_0 : Jvm.ClassFile.decode jdk_18_method_1_code 0 = .ok (.aload_n 0, 1) := by decide +kernel
theorem d_jdk_18_method_1_1 : Jvm.ClassFile.decode jdk_18_method_1_code 1 = .ok (.invokespecial 1, 3) := by decide +kernel
theorem d_jdk_18_method_1_4 : Jvm.ClassFile.decode jdk_18_method_1_code 4 = .ok (.return_, 1) := by decide +kernel
theorem own_pn3 : plainName "java/lang/Number" = true := by first | (simp [plainName, overriddenIn]; done) | decide +kernel
theorem own_ef_rm8 (m : MethodId) (x0 : Addr) : entryFrame m #[(.ref x0)] 1 = mkF m 0 #[.val (.ref x0)] [] := by first | (simp [entryFrame, mkF, argsToLocals, Value.category]; done) | rfl
set_option maxRecDepth 65536 in
set_option maxHeartbeats 40000000 in
theorem rm8 (l : Launch) (Z : State) (a0 : Array Value) (hw : ∀ d ∈ tables_1, d.before a0 Z = true) (ws : List Jvm.Cond) (a1 : Addr) (h0 : Heap) (n0 : Nat) (hn0 : n0 ≤ h0.size)  :
    OwnMet l Z (⟨"java/lang/Number", "<init>", "()V"⟩ : MethodName) jdk_18_method_1_code 1 none ws ({ frames := 1, cells := 0, slots := 0, locals := 12 } : Room) #[(.ref a1)] h0 (OwnP none h0 n0) := by
  refine own_body (plainFor_of_name own_pn3) ?_
  intro p e s m below meth c s₁ X0 hx hby hml hret hlk hown0 hnm hZ e0 hs0
  have hown : s.vm.findClass "java/lang/Number" = some m.cls := hown0
  have N0 := Fr.nil n0
  refine own_entry (own_ef_rm8 m a1) ?_
  show Go _ _ _ _ _ s₁ (mkF m 0 #[.val (.ref a1)] [])
  refine own_go (fun t k => XS.aloadN X0.here hx rfl (hb hby d_jdk_18_method_1_0) rfl rfl k) ?_
  show Go _ _ _ _ _ s₁ (mkF m 1 #[.val (.ref a1)] [(.ref a1)])
  obtain ⟨T26, X26, e26, st26⟩ := initO X0 hx hZ hown (hw _ (List.mem_of_getElem? (i := 70) rfl)) (hw _ (List.mem_of_getElem? (i := 15) rfl)) (hw _ (List.mem_of_getElem? (i := 16) rfl)) e0 (g := (mkF m 1 #[.val (.ref a1)] [(.ref a1)])) rfl (by rw [hml]; rfl) rfl (hb hby d_jdk_18_method_1_1) (by decide) (W := 0) (by show 2 * 0 + _ ≤ _; exact Nat.le_of_eq rfl) (by decide)
  refine own_go (fun t k => st26 t k) ?_
  show Go _ _ _ _ _ T26 (mkF m 4 #[.val (.ref a1)] [])
  refine own_retV X26 hx (own_lvN X26 hlk (by decide) (by decide)) hret (hb hby d_jdk_18_method_1_4) ?_
  exact ⟨rfl, N0, e26⟩
def OwnQ_rm7 (Z : State) (a1 : Addr) (p1 : Int32) (h0 : Heap) (n0 : Nat) (v : Option Value) (h : Heap) (L : List Loc) : Prop := v = none ∧ Fr n0 L ∧ Keep h0 h [a1] ∧ Exa Z h a1 "java/lang/Integer" ∧ Fld Z h a1 "java/lang/Integer" "value" "I" (.int p1)
theorem d_jdk_33_method_23_0 : Jvm.ClassFile.decode jdk_33_method_23_code 0 = .ok (.aload_n 0, 1) := by decide +kernel
theorem d_jdk_33_method_23_1 : Jvm.ClassFile.decode jdk_33_method_23_code 1 = .ok (.invokespecial 202, 3) := by decide +kernel
theorem own_pd1 : parseMethodDescriptor "()V" = some ⟨[], none⟩ := by decide +kernel
theorem d_jdk_33_method_23_4 : Jvm.ClassFile.decode jdk_33_method_23_code 4 = .ok (.aload_n 0, 1) := by decide +kernel
theorem d_jdk_33_method_23_5 : Jvm.ClassFile.decode jdk_33_method_23_code 5 = .ok (.iload_n 1, 1) := by decide +kernel
theorem d_jdk_33_method_23_6 : Jvm.ClassFile.decode jdk_33_method_23_code 6 = .ok (.putfield 205, 3) := by decide +kernel
theorem d_jdk_33_method_23_9 : Jvm.ClassFile.decode jdk_33_method_23_code 9 = .ok (.return_, 1) := by decide +kernel
theorem own_pn4 : plainName "java/lang/Integer" = true := by first | (simp [plainName, overriddenIn]; done) | decide +kernel
theorem own_ef_rm7 (m : MethodId) (x0 : Addr) (x1 : Int32) : entryFrame m #[(.ref x0), (.int x1)] 2 = mkF m 0 #[.val (.ref x0), .val (.int x1)] [] := by first | (simp [entryFrame, mkF, argsToLocals, Value.category]; done) | rfl
set_option maxRecDepth 65536 in
set_option maxHeartbeats 40000000 in
theorem rm7 (l : Launch) (Z : State) (a0 : Array Value) (hw : ∀ d ∈ tables_1, d.before a0 Z = true) (ws : List Jvm.Cond) (a1 : Addr) (p1 : Int32) (h0 : Heap) (n0 : Nat) (hn0 : n0 ≤ h0.size) (E_a1 : Exa Z h0 a1 "java/lang/Integer") (g_a1 : n0 ≤ a1) (F_value : Fld Z h0 a1 "java/lang/Integer" "value" "I" (.int (0 : Int32))) :
    OwnMet l Z (⟨"java/lang/Integer", "<init>", "(I)V"⟩ : MethodName) jdk_33_method_23_code 2 none ws ({ frames := 2, cells := 0, slots := 0, locals := 24 } : Room) #[(.ref a1), (.int p1)] h0 (OwnQ_rm7 Z a1 p1 h0 n0) := by
  refine own_body (plainFor_of_name own_pn4) ?_
  intro p e s m below meth c s₁ X0 hx hby hml hret hlk hown0 hnm hZ e0 hs0
  have hown : s.vm.findClass "java/lang/Integer" = some m.cls := hown0
  have N0 := Fr.nil n0
  refine own_entry (own_ef_rm7 m a1 p1) ?_
  have K0 := Keep.refl h0 [a1]
  show Go _ _ _ _ _ s₁ (mkF m 0 #[.val (.ref a1), .val (.int p1)] [])
  refine own_go (fun t k => XS.aloadN X0.here hx rfl (hb hby d_jdk_33_method_23_0) rfl rfl k) ?_
  show Go _ _ _ _ _ s₁ (mkF m 1 #[.val (.ref a1), .val (.int p1)] [(.ref a1)])
  refine own_callI X0 hx hZ (y := (⟨"java/lang/Number", "<init>", "()V"⟩ : MethodName)) rfl hown (hw _ (List.mem_of_getElem? (i := 64) rfl)) (hw _ (List.mem_of_getElem? (i := 65) rfl)) (hw _ (List.mem_of_getElem? (i := 69) rfl)) (hw _ (List.mem_of_getElem? (i := 68) rfl)) (by decide) (rm8 l Z a0 hw [] a1 h0 n0 hn0) e0 (b := a1) (by rw [hml]; rfl) (argsL := []) (rest := []) rfl rfl (lenOf own_pd1 rfl) (W := 0) (Nat.le_of_eq rfl) (by decide) (by decide) (hb hby d_jdk_33_method_23_1) (by decide) (by decide) ?_
  intro v27 T27 L27 X27 q27
  obtain ⟨rfl, N27q, e27⟩ := q27
  have N27 := Fr.app N0 N27q
  show Go _ _ _ _ _ T27 (mkF m 4 #[.val (.ref a1), .val (.int p1)] [])
  refine own_go (fun t k => XS.aloadN X27.here hx rfl (hb hby d_jdk_33_method_23_4) rfl rfl k) ?_
  show Go _ _ _ _ _ T27 (mkF m 5 #[.val (.ref a1), .val (.int p1)] [(.ref a1)])
  refine own_go (fun t k => XS.iloadN X27.here hx rfl (hb hby d_jdk_33_method_23_5) rfl k) ?_
  show Go _ _ _ _ _ T27 (mkF m 6 #[.val (.ref a1), .val (.int p1)] [(.int p1), (.ref a1)])
  obtain ⟨T28, h28, X28, e28, W28, st28⟩ := putF X27 hx hZ hown (host := "") (Or.inl (hw _ (List.mem_of_getElem? (i := 71) rfl))) Via.refl e27 F_value E_a1 (Or.inr ⟨(hw _ (List.mem_of_getElem? (i := 72) rfl)), rfl, hnm⟩) (hw _ (List.mem_of_getElem? (i := 59) rfl)) (ty := .int) (by decide) rfl rfl (g := (mkF m 6 #[.val (.ref a1), .val (.int p1)] [(.int p1), (.ref a1)])) rfl rfl (hb hby d_jdk_33_method_23_6)
  replace E_a1 := E_a1.wr W28
  replace F_value := F_value.same W28
  have N28 := Fr.snoc X28 N27 g_a1
  have hn28 : n0 ≤ h28.size := Nat.le_trans hn0 (Keep.of_wr W28).1
  have K28 := K0.wr W28 (Or.inl (List.mem_of_getElem? (i := 0) rfl))
  refine own_go (fun t k => st28 t k) ?_
  show Go _ _ _ _ _ T28 (mkF m 9 #[.val (.ref a1), .val (.int p1)] [])
  refine own_retV X28 hx (own_lvN X28 hlk (by decide) (by decide)) hret (hb hby d_jdk_33_method_23_9) ?_
  rw [e28]
  exact ⟨rfl, N28, K28, E_a1, F_value⟩
def OwnQ_box (Z : State) (h0 : Heap) (n0 : Nat) (v : Option Value) (h : Heap) (L : List Loc) : Prop := ∃ b, v = some (.ref b) ∧ Fr n0 L ∧ Keep h0 h [] ∧ Exa Z h b "java/lang/Integer"
theorem d_jdk_33_method_22_0 : Jvm.ClassFile.decode jdk_33_method_22_code 0 = .ok (.iload_n 0, 1) := by decide +kernel
theorem d_jdk_33_method_22_1 : Jvm.ClassFile.decode jdk_33_method_22_code 1 = .ok (.bipush (-128), 2) := by decide +kernel
theorem d_jdk_33_method_22_3 : Jvm.ClassFile.decode jdk_33_method_22_code 3 = .ok (.if_icmp .lt 20, 3) := by decide +kernel
theorem d_jdk_33_method_22_23 : Jvm.ClassFile.decode jdk_33_method_22_code 23 = .ok (.new 1, 3) := by decide +kernel
theorem d_jdk_33_method_22_26 : Jvm.ClassFile.decode jdk_33_method_22_code 26 = .ok (.dup, 1) := by decide +kernel
theorem d_jdk_33_method_22_27 : Jvm.ClassFile.decode jdk_33_method_22_code 27 = .ok (.iload_n 0, 1) := by decide +kernel
theorem d_jdk_33_method_22_28 : Jvm.ClassFile.decode jdk_33_method_22_code 28 = .ok (.invokespecial 199, 3) := by decide +kernel
theorem own_pd2 : parseMethodDescriptor "(I)V" = some ⟨[.int], none⟩ := by decide +kernel
theorem d_jdk_33_method_22_31 : Jvm.ClassFile.decode jdk_33_method_22_code 31 = .ok (.areturn, 1) := by decide +kernel
theorem d_jdk_33_method_22_6 : Jvm.ClassFile.decode jdk_33_method_22_code 6 = .ok (.iload_n 0, 1) := by decide +kernel
theorem d_jdk_33_method_22_7 : Jvm.ClassFile.decode jdk_33_method_22_code 7 = .ok (.getstatic 191, 3) := by decide +kernel
theorem d_jdk_33_method_22_10 : Jvm.ClassFile.decode jdk_33_method_22_code 10 = .ok (.if_icmp .gt 13, 3) := by decide +kernel
theorem d_jdk_33_method_22_13 : Jvm.ClassFile.decode jdk_33_method_22_code 13 = .ok (.getstatic 195, 3) := by decide +kernel
theorem d_jdk_33_method_22_16 : Jvm.ClassFile.decode jdk_33_method_22_code 16 = .ok (.iload_n 0, 1) := by decide +kernel
theorem d_jdk_33_method_22_17 : Jvm.ClassFile.decode jdk_33_method_22_code 17 = .ok (.sipush 128, 3) := by decide +kernel
theorem d_jdk_33_method_22_20 : Jvm.ClassFile.decode jdk_33_method_22_code 20 = .ok (.iadd, 1) := by decide +kernel
theorem d_jdk_33_method_22_21 : Jvm.ClassFile.decode jdk_33_method_22_code 21 = .ok (.aaload, 1) := by decide +kernel
theorem d_jdk_33_method_22_22 : Jvm.ClassFile.decode jdk_33_method_22_code 22 = .ok (.areturn, 1) := by decide +kernel
theorem own_ef_rm5 (m : MethodId) (x0 : Int32) : entryFrame m #[(.int x0)] 1 = mkF m 0 #[.val (.int x0)] [] := by first | (simp [entryFrame, mkF, argsToLocals, Value.category]; done) | rfl
set_option maxRecDepth 65536 in
set_option maxHeartbeats 40000000 in
theorem rm5 (l : Launch) (Z : State) (a0 : Array Value) (hw : ∀ d ∈ tables_1, d.before a0 Z = true) (ws : List Jvm.Cond) (p1 : Int32) (ca : Addr) (h0 : Heap) (n0 : Nat) (hn0 : n0 ≤ h0.size) (S_high : Sta Z h0 "java/lang/Integer$IntegerCache" "high" "I" (.int (127 : Int32))) (S_cache : Sta Z h0 "java/lang/Integer$IntegerCache" "cache" "[Ljava/lang/Integer;" (.ref ca)) (Ca : OwnCache Z h0 ca) :
    OwnMet l Z (⟨"java/lang/Integer", "valueOf", "(I)Ljava/lang/Integer;"⟩ : MethodName) jdk_33_method_22_code 1 (some (.object "java/lang/Integer")) ws ({ frames := 3, cells := 1, slots := 1, locals := 38 } : Room) #[(.int p1)] h0 (OwnQ_box Z h0 n0) := by
  refine own_body (plainFor_of_name own_pn4) ?_
  intro p e s m below meth c s₁ X0 hx hby hml hret hlk hown0 hnm hZ e0 hs0
  have hown : s.vm.findClass "java/lang/Integer" = some m.cls := hown0
  have N0 := Fr.nil n0
  refine own_entry (own_ef_rm5 m p1) ?_
  have K0 := Keep.refl h0 []
  show Go _ _ _ _ _ s₁ (mkF m 0 #[.val (.int p1)] [])
  refine own_go (fun t k => XS.iloadN X0.here hx rfl (hb hby d_jdk_33_method_22_0) rfl k) ?_
  show Go _ _ _ _ _ s₁ (mkF m 1 #[.val (.int p1)] [(.int p1)])
  refine own_go (fun t k => XS.bipush X0.here hx rfl (hb hby d_jdk_33_method_22_1) k) ?_
  show Go _ _ _ _ _ s₁ (mkF m 3 #[.val (.int p1)] [(.int (-128 : Int32)), (.int p1)])
  refine own_icmpP (p1 < (-128 : Int32)) X0 hx (hb hby d_jdk_33_method_22_3) (own_lt _ _) (by decide) (by decide) (pc' := 23) (fun hc29 => ?_) (fun hc29 => ?_)
  · skip
    show Go _ _ _ _ _ s₁ (mkF m 23 #[.val (.int p1)] [])
    obtain ⟨T30, h30, X30, e30, E30, A30, D30, -, st30⟩ := newO X0 hx hZ hown (hw _ (List.mem_of_getElem? (i := 58) rfl)) (hw _ (List.mem_of_getElem? (i := 59) rfl)) (hw _ (List.mem_of_getElem? (i := 39) rfl)) e0 (g := (mkF m 23 #[.val (.int p1)] [])) rfl (hb hby d_jdk_33_method_22_23) (by decide) (by decide)
    obtain ⟨b30, g30⟩ : ∃ z, z = h0.size := ⟨_, rfl⟩
    rw [← g30] at A30 D30 st30
    have ne_ca_b30 : ¬ ca = b30 := Nat.ne_of_lt (by rw [g30]; exact Ca.lt)
    replace S_high := S_high.ext E30
    replace S_cache := S_cache.ext E30
    replace Ca := Ca.ext E30
    have g_b30 : n0 ≤ b30 := by rw [g30]; exact hn0
    have hn30 : n0 ≤ h30.size := Nat.le_trans hn0 E30.1
    have F_value_b30 : Fld Z h30 b30 "java/lang/Integer" "value" "I" (.int (0 : Int32)) := D30 (Or.inr (hw _ (List.mem_of_getElem? (i := 72) rfl))) (ty := .int) (by decide)
    refine own_go (fun t k => st30 t k) ?_
    have sz_b30 : h0.size ≤ b30 := by rw [g30]; exact K0.1
    have K30 := K0.ext E30
    show Go _ _ _ _ _ T30 (mkF m 26 #[.val (.int p1)] [(.ref b30)])
    refine own_go (fun t k => XS.dup X30.here hx rfl (hb hby d_jdk_33_method_22_26) rfl rfl k) ?_
    show Go _ _ _ _ _ T30 (mkF m 27 #[.val (.int p1)] [(.ref b30), (.ref b30)])
    refine own_go (fun t k => XS.iloadN X30.here hx rfl (hb hby d_jdk_33_method_22_27) rfl k) ?_
    show Go _ _ _ _ _ T30 (mkF m 28 #[.val (.int p1)] [(.int p1), (.ref b30), (.ref b30)])
    refine own_callI X30 hx hZ (y := (⟨"java/lang/Integer", "<init>", "(I)V"⟩ : MethodName)) rfl hown (hw _ (List.mem_of_getElem? (i := 60) rfl)) (hw _ (List.mem_of_getElem? (i := 61) rfl)) (hw _ (List.mem_of_getElem? (i := 63) rfl)) (hw _ (List.mem_of_getElem? (i := 39) rfl)) (by decide) (rm7 l Z a0 hw [] b30 p1 h30 n0 hn30 A30 g_b30 F_value_b30 ) e30 (b := b30) (by rw [hml]; rfl) (argsL := [(.int p1)]) (rest := [(.ref b30)]) rfl rfl (lenOf own_pd2 rfl) (W := 1) (Nat.le_of_eq rfl) (by decide) (by decide) (hb hby d_jdk_33_method_22_28) (by decide) (by decide) ?_
    intro v31 T31 L31 X31 q31
    obtain ⟨rfl, N31q, K31, Ex31, F31_value⟩ := q31
    have N31 := Fr.app N0 N31q
    replace S_high := own_sta_keep S_high K31 (allS ⟨_, A30⟩ all0)
    replace S_cache := own_sta_keep S_cache K31 (allS ⟨_, A30⟩ all0)
    replace Ca := Ca.keep K31 (ninS ne_ca_b30 nin0)
    replace A30 := A30.keep K31
    have KK31 := K30.trans K31 (by intro x hx; cases List.mem_singleton.mp hx; exact Or.inr sz_b30)
    have hn31 : n0 ≤ T31.heap.size := Nat.le_trans hn30 K31.1
    show Go _ _ _ _ _ T31 (mkF m 31 #[.val (.int p1)] [(.ref b30)])
    refine own_retA X31 hx (own_lvN X31 hlk (by decide) (by decide)) hret rfl rfl (hb hby d_jdk_33_method_22_31) ?_
    skip
    exact ⟨_, rfl, N31, KK31, Ex31⟩
  · skip
    show Go _ _ _ _ _ s₁ (mkF m 6 #[.val (.int p1)] [])
    refine own_go (fun t k => XS.iloadN X0.here hx rfl (hb hby d_jdk_33_method_22_6) rfl k) ?_
    show Go _ _ _ _ _ s₁ (mkF m 7 #[.val (.int p1)] [(.int p1)])
    obtain ⟨T32, X32, e32, st32⟩ := getS2 X0 hx hZ hown (host := "") (Or.inl (hw _ (List.mem_of_getElem? (i := 41) rfl))) Via.refl e0 S_high (g := (mkF m 7 #[.val (.int p1)] [(.int p1)])) rfl (hb hby d_jdk_33_method_22_7)
    refine own_go (fun t k => st32 t k) ?_
    show Go _ _ _ _ _ T32 (mkF m 10 #[.val (.int p1)] [(.int (127 : Int32)), (.int p1)])
    refine own_icmpP ((127 : Int32) < p1) X32 hx (hb hby d_jdk_33_method_22_10) (own_gt _ _) (by decide) (by decide) (pc' := 23) (fun hc33 => ?_) (fun hc33 => ?_)
    · skip
      show Go _ _ _ _ _ T32 (mkF m 23 #[.val (.int p1)] [])
      obtain ⟨T34, h34, X34, e34, E34, A34, D34, -, st34⟩ := newO X32 hx hZ hown (hw _ (List.mem_of_getElem? (i := 58) rfl)) (hw _ (List.mem_of_getElem? (i := 59) rfl)) (hw _ (List.mem_of_getElem? (i := 39) rfl)) e32 (g := (mkF m 23 #[.val (.int p1)] [])) rfl (hb hby d_jdk_33_method_22_23) (by decide) (by decide)
      obtain ⟨b34, g34⟩ : ∃ z, z = h0.size := ⟨_, rfl⟩
      rw [← g34] at A34 D34 st34
      have ne_ca_b34 : ¬ ca = b34 := Nat.ne_of_lt (by rw [g34]; exact Ca.lt)
      replace S_high := S_high.ext E34
      replace S_cache := S_cache.ext E34
      replace Ca := Ca.ext E34
      have g_b34 : n0 ≤ b34 := by rw [g34]; exact hn0
      have hn34 : n0 ≤ h34.size := Nat.le_trans hn0 E34.1
      have F_value_b34 : Fld Z h34 b34 "java/lang/Integer" "value" "I" (.int (0 : Int32)) := D34 (Or.inr (hw _ (List.mem_of_getElem? (i := 72) rfl))) (ty := .int) (by decide)
      refine own_go (fun t k => st34 t k) ?_
      have sz_b34 : h0.size ≤ b34 := by rw [g34]; exact K0.1
      have K34 := K0.ext E34
      show Go _ _ _ _ _ T34 (mkF m 26 #[.val (.int p1)] [(.ref b34)])
      refine own_go (fun t k => XS.dup X34.here hx rfl (hb hby d_jdk_33_method_22_26) rfl rfl k) ?_
      show Go _ _ _ _ _ T34 (mkF m 27 #[.val (.int p1)] [(.ref b34), (.ref b34)])
      refine own_go (fun t k => XS.iloadN X34.here hx rfl (hb hby d_jdk_33_method_22_27) rfl k) ?_
      show Go _ _ _ _ _ T34 (mkF m 28 #[.val (.int p1)] [(.int p1), (.ref b34), (.ref b34)])
      refine own_callI X34 hx hZ (y := (⟨"java/lang/Integer", "<init>", "(I)V"⟩ : MethodName)) rfl hown (hw _ (List.mem_of_getElem? (i := 60) rfl)) (hw _ (List.mem_of_getElem? (i := 61) rfl)) (hw _ (List.mem_of_getElem? (i := 63) rfl)) (hw _ (List.mem_of_getElem? (i := 39) rfl)) (by decide) (rm7 l Z a0 hw [] b34 p1 h34 n0 hn34 A34 g_b34 F_value_b34 ) e34 (b := b34) (by rw [hml]; rfl) (argsL := [(.int p1)]) (rest := [(.ref b34)]) rfl rfl (lenOf own_pd2 rfl) (W := 1) (Nat.le_of_eq rfl) (by decide) (by decide) (hb hby d_jdk_33_method_22_28) (by decide) (by decide) ?_
      intro v35 T35 L35 X35 q35
      obtain ⟨rfl, N35q, K35, Ex35, F35_value⟩ := q35
      have N35 := Fr.app N0 N35q
      replace S_high := own_sta_keep S_high K35 (allS ⟨_, A34⟩ all0)
      replace S_cache := own_sta_keep S_cache K35 (allS ⟨_, A34⟩ all0)
      replace Ca := Ca.keep K35 (ninS ne_ca_b34 nin0)
      replace A34 := A34.keep K35
      have KK35 := K34.trans K35 (by intro x hx; cases List.mem_singleton.mp hx; exact Or.inr sz_b34)
      have hn35 : n0 ≤ T35.heap.size := Nat.le_trans hn34 K35.1
      show Go _ _ _ _ _ T35 (mkF m 31 #[.val (.int p1)] [(.ref b34)])
      refine own_retA X35 hx (own_lvN X35 hlk (by decide) (by decide)) hret rfl rfl (hb hby d_jdk_33_method_22_31) ?_
      skip
      exact ⟨_, rfl, N35, KK35, Ex35⟩
    · skip
      show Go _ _ _ _ _ T32 (mkF m 13 #[.val (.int p1)] [])
      obtain ⟨T36, X36, e36, st36⟩ := getS2 X32 hx hZ hown (host := "") (Or.inl (hw _ (List.mem_of_getElem? (i := 43) rfl))) Via.refl e32 S_cache (g := (mkF m 13 #[.val (.int p1)] [])) rfl (hb hby d_jdk_33_method_22_13)
      refine own_go (fun t k => st36 t k) ?_
      show Go _ _ _ _ _ T36 (mkF m 16 #[.val (.int p1)] [(.ref ca)])
      refine own_go (fun t k => XS.iloadN X36.here hx rfl (hb hby d_jdk_33_method_22_16) rfl k) ?_
      show Go _ _ _ _ _ T36 (mkF m 17 #[.val (.int p1)] [(.int p1), (.ref ca)])
      refine own_go (fun t k => XS.sipush X36.here hx rfl (hb hby d_jdk_33_method_22_17) k) ?_
      show Go _ _ _ _ _ T36 (mkF m 20 #[.val (.int p1)] [(.int (128 : Int32)), (.int p1), (.ref ca)])
      refine own_go (fun t k => XS.iadd X36.here hx rfl (hb hby d_jdk_33_method_22_20) rfl k) ?_
      show Go _ _ _ _ _ T36 (mkF m 21 #[.val (.int p1)] [(.int (p1 + (128 : Int32))), (.ref ca)])
      obtain ⟨cl, Ar, hsz, hel⟩ := Ca
      obtain ⟨hj1, hj2⟩ := own_cidx p1 hc29 hc33
      obtain ⟨bb, hat, Ebb⟩ := hel _ hj2
      refine own_go (fun t k => X36.aaload hx (j := (p1 + (128 : Int32))) (v := (.ref bb)) (by rw [e36]; exact Ar.1) (State.isArrayOf_alike hZ.alike Ar.2.1) rfl Ar.2.2 (fun q => q.elim hj1 (fun q => Nat.not_lt.mpr (hsz ▸ q) hj2)) hat (g := (mkF m 21 #[.val (.int p1)] [(.int (p1 + (128 : Int32))), (.ref ca)])) rfl rfl (hb hby d_jdk_33_method_22_21) _ k) ?_
      show Go _ _ _ _ _ T36 (mkF m 22 #[.val (.int p1)] [(.ref bb)])
      refine own_retA X36 hx (own_lvN X36 hlk (by decide) (by decide)) hret rfl rfl (hb hby d_jdk_33_method_22_22) ?_
      rw [e36]
      exact ⟨_, rfl, N0, K0, Ebb⟩
theorem d_prog_46_method_6_0 : Jvm.ClassFile.decode prog_46_method_6_code 0 = .ok (.aload_n 1, 1) := by decide +kernel
theorem d_prog_46_method_6_1 : Jvm.ClassFile.decode prog_46_method_6_code 1 = .ok (.instanceof 18, 3) := by decide +kernel
theorem d_prog_46_method_6_4 : Jvm.ClassFile.decode prog_46_method_6_code 4 = .ok (.ifCond .eq 46, 3) := by decide +kernel
theorem d_prog_46_method_6_7 : Jvm.ClassFile.decode prog_46_method_6_code 7 = .ok (.aload_n 1, 1) := by decide +kernel
theorem d_prog_46_method_6_8 : Jvm.ClassFile.decode prog_46_method_6_code 8 = .ok (.checkcast 18, 3) := by decide +kernel
theorem d_prog_46_method_6_11 : Jvm.ClassFile.decode prog_46_method_6_code 11 = .ok (.astore_n 2, 1) := by decide +kernel
theorem d_prog_46_method_6_12 : Jvm.ClassFile.decode prog_46_method_6_code 12 = .ok (.aload_n 0, 1) := by decide +kernel
theorem d_prog_46_method_6_13 : Jvm.ClassFile.decode prog_46_method_6_code 13 = .ok (.getfield 17, 3) := by decide +kernel
theorem d_prog_46_method_6_16 : Jvm.ClassFile.decode prog_46_method_6_code 16 = .ok (.aload_n 2, 1) := by decide +kernel
theorem d_prog_46_method_6_17 : Jvm.ClassFile.decode prog_46_method_6_code 17 = .ok (.getfield 17, 3) := by decide +kernel
theorem d_prog_46_method_6_20 : Jvm.ClassFile.decode prog_46_method_6_code 20 = .ok (.if_acmp .ne 30, 3) := by decide +kernel
theorem d_prog_46_method_6_23 : Jvm.ClassFile.decode prog_46_method_6_code 23 = .ok (.aload_n 0, 1) := by decide +kernel
theorem d_prog_46_method_6_24 : Jvm.ClassFile.decode prog_46_method_6_code 24 = .ok (.getfield 22, 3) := by decide +kernel
theorem d_prog_46_method_6_27 : Jvm.ClassFile.decode prog_46_method_6_code 27 = .ok (.aload_n 2, 1) := by decide +kernel
theorem d_prog_46_method_6_28 : Jvm.ClassFile.decode prog_46_method_6_code 28 = .ok (.getfield 22, 3) := by decide +kernel
theorem d_prog_46_method_6_31 : Jvm.ClassFile.decode prog_46_method_6_code 31 = .ok (.lcmp, 1) := by decide +kernel
theorem d_prog_46_method_6_32 : Jvm.ClassFile.decode prog_46_method_6_code 32 = .ok (.ifCond .ne 18, 3) := by decide +kernel
theorem d_prog_46_method_6_50 : Jvm.ClassFile.decode prog_46_method_6_code 50 = .ok (.iconst 0, 1) := by decide +kernel
theorem d_prog_46_method_6_51 : Jvm.ClassFile.decode prog_46_method_6_code 51 = .ok (.ireturn, 1) := by decide +kernel
theorem d_prog_46_method_6_35 : Jvm.ClassFile.decode prog_46_method_6_code 35 = .ok (.aload_n 0, 1) := by decide +kernel
theorem d_prog_46_method_6_36 : Jvm.ClassFile.decode prog_46_method_6_code 36 = .ok (.getfield 26, 3) := by decide +kernel
theorem d_prog_46_method_6_39 : Jvm.ClassFile.decode prog_46_method_6_code 39 = .ok (.aload_n 2, 1) := by decide +kernel
theorem d_prog_46_method_6_40 : Jvm.ClassFile.decode prog_46_method_6_code 40 = .ok (.getfield 26, 3) := by decide +kernel
theorem d_prog_46_method_6_43 : Jvm.ClassFile.decode prog_46_method_6_code 43 = .ok (.if_icmp .ne 7, 3) := by decide +kernel
theorem d_prog_46_method_6_46 : Jvm.ClassFile.decode prog_46_method_6_code 46 = .ok (.iconst 1, 1) := by decide +kernel
theorem d_prog_46_method_6_47 : Jvm.ClassFile.decode prog_46_method_6_code 47 = .ok (.goto 4, 3) := by decide +kernel
def own_f_rm_eq_same (x_kind : Addr) (x_offset : Int64) (x_value : Int32) (y_kind : Addr) (y_offset : Int64) (y_value : Int32) : Int32 := (if x_kind = y_kind then (if (lcmpW x_offset y_offset) = (0 : Int32) then (if x_value = y_value then (1 : Int32) else (0 : Int32)) else (0 : Int32)) else (0 : Int32))
theorem own_ef_rm_eq_same (m : MethodId) (x0 : Addr) (x1 : Addr) : entryFrame m #[(.ref x0), (.ref x1)] 3 = mkF m 0 #[.val (.ref x0), .val (.ref x1), .unset] [] := by first | (simp [entryFrame, mkF, argsToLocals, Value.category]; done) | rfl
set_option maxRecDepth 65536 in
set_option maxHeartbeats 40000000 in
theorem rm_eq_same (l : Launch) (Z : State) (a0 : Array Value) (hw : ∀ d ∈ tables_1, d.before a0 Z = true) (ws : List Jvm.Cond) (a1 : Addr) (a2 : Addr) (x_kind : Addr) (x_offset : Int64) (x_value : Int32) (y_kind : Addr) (y_offset : Int64) (y_value : Int32) (r : Int32) (h0 : Heap) (n0 : Nat) (hn0 : n0 ≤ h0.size) (E_a2 : Exa Z h0 a2 "com/example/pair16/pair16/Utf16Fault") (F_kind_a1 : Fld Z h0 a1 "com/example/pair16/pair16/Utf16Fault" "kind" "Lcom/example/pair16/pair16/Utf16Fault$Kind;" (.ref x_kind)) (F_offset_a1 : Fld Z h0 a1 "com/example/pair16/pair16/Utf16Fault" "offset" "J" (.long x_offset)) (F_value_a1 : Fld Z h0 a1 "com/example/pair16/pair16/Utf16Fault" "value" "I" (.int x_value)) (F_kind_a2 : Fld Z h0 a2 "com/example/pair16/pair16/Utf16Fault" "kind" "Lcom/example/pair16/pair16/Utf16Fault$Kind;" (.ref y_kind)) (F_offset_a2 : Fld Z h0 a2 "com/example/pair16/pair16/Utf16Fault" "offset" "J" (.long y_offset)) (F_value_a2 : Fld Z h0 a2 "com/example/pair16/pair16/Utf16Fault" "value" "I" (.int y_value)) (hr : own_f_rm_eq_same x_kind x_offset x_value y_kind y_offset y_value = r) :
    OwnMet l Z (⟨"com/example/pair16/pair16/Utf16Fault", "equals", "(Ljava/lang/Object;)Z"⟩ : MethodName) prog_46_method_6_code 3 (some .boolean) ws ({ frames := 0, cells := 0, slots := 0, locals := 0 } : Room) #[(.ref a1), (.ref a2)] h0 (OwnP (some (.int r)) h0 n0) := by
  refine own_body (plainFor_of_name own_pn2) ?_
  intro p e s m below meth c s₁ X0 hx hby hml hret hlk hown0 hnm hZ e0 hs0
  have hown : s.vm.findClass "com/example/pair16/pair16/Utf16Fault" = some m.cls := hown0
  have N0 := Fr.nil n0
  refine own_entry (own_ef_rm_eq_same m a1 a2) ?_
  show Go _ _ _ _ _ s₁ (mkF m 0 #[.val (.ref a1), .val (.ref a2), .unset] [])
  refine own_go (fun t k => XS.aloadN X0.here hx rfl (hb hby d_prog_46_method_6_0) rfl rfl k) ?_
  show Go _ _ _ _ _ s₁ (mkF m 1 #[.val (.ref a1), .val (.ref a2), .unset] [(.ref a2)])
  obtain ⟨T48, X48, e48, st48⟩ := instY X0 hx hZ hown (hw _ (List.mem_of_getElem? (i := 49) rfl)) e0 (Ins.self E_a2) (g := (mkF m 1 #[.val (.ref a1), .val (.ref a2), .unset] [(.ref a2)])) rfl rfl (hb hby d_prog_46_method_6_1)
  refine own_go (fun t k => st48 t k) ?_
  show Go _ _ _ _ _ T48 (mkF m 4 #[.val (.ref a1), .val (.ref a2), .unset] [(.int (1 : Int32))])
  refine own_go (fun t k => XS.ifNo X48.here hx rfl (hb hby d_prog_46_method_6_4) rfl (by decide) k) ?_
  show Go _ _ _ _ _ T48 (mkF m 7 #[.val (.ref a1), .val (.ref a2), .unset] [])
  refine own_go (fun t k => XS.aloadN X48.here hx rfl (hb hby d_prog_46_method_6_7) rfl rfl k) ?_
  show Go _ _ _ _ _ T48 (mkF m 8 #[.val (.ref a1), .val (.ref a2), .unset] [(.ref a2)])
  obtain ⟨T49, X49, e49, st49⟩ := castY X48 hx hZ hown (hw _ (List.mem_of_getElem? (i := 49) rfl)) e48 (Ins.self E_a2) (g := (mkF m 8 #[.val (.ref a1), .val (.ref a2), .unset] [(.ref a2)])) rfl rfl (hb hby d_prog_46_method_6_8)
  refine own_go (fun t k => st49 t k) ?_
  show Go _ _ _ _ _ T49 (mkF m 11 #[.val (.ref a1), .val (.ref a2), .unset] [(.ref a2)])
  refine own_go (fun t k => XS.astoreN X49.here hx rfl (hb hby d_prog_46_method_6_11) rfl rfl (l' := #[.val (.ref a1), .val (.ref a2), .val (.ref a2)]) rfl k) ?_
  show Go _ _ _ _ _ T49 (mkF m 12 #[.val (.ref a1), .val (.ref a2), .val (.ref a2)] [])
  refine own_go (fun t k => XS.aloadN X49.here hx rfl (hb hby d_prog_46_method_6_12) rfl rfl k) ?_
  show Go _ _ _ _ _ T49 (mkF m 13 #[.val (.ref a1), .val (.ref a2), .val (.ref a2)] [(.ref a1)])
  obtain ⟨T50, X50, e50, st50⟩ := getF X49 hx hZ hown (host := "") (Or.inl (hw _ (List.mem_of_getElem? (i := 31) rfl))) Via.refl e49 F_kind_a1 (g := (mkF m 13 #[.val (.ref a1), .val (.ref a2), .val (.ref a2)] [(.ref a1)])) rfl rfl (hb hby d_prog_46_method_6_13)
  refine own_go (fun t k => st50 t k) ?_
  show Go _ _ _ _ _ T50 (mkF m 16 #[.val (.ref a1), .val (.ref a2), .val (.ref a2)] [(.ref x_kind)])
  refine own_go (fun t k => XS.aloadN X50.here hx rfl (hb hby d_prog_46_method_6_16) rfl rfl k) ?_
  show Go _ _ _ _ _ T50 (mkF m 17 #[.val (.ref a1), .val (.ref a2), .val (.ref a2)] [(.ref a2), (.ref x_kind)])
  obtain ⟨T51, X51, e51, st51⟩ := getF X50 hx hZ hown (host := "") (Or.inl (hw _ (List.mem_of_getElem? (i := 31) rfl))) Via.refl e50 F_kind_a2 (g := (mkF m 17 #[.val (.ref a1), .val (.ref a2), .val (.ref a2)] [(.ref a2), (.ref x_kind)])) rfl rfl (hb hby d_prog_46_method_6_17)
  refine own_go (fun t k => st51 t k) ?_
  show Go _ _ _ _ _ T51 (mkF m 20 #[.val (.ref a1), .val (.ref a2), .val (.ref a2)] [(.ref y_kind), (.ref x_kind)])
  refine own_acmp (x_kind = y_kind) X51 hx rfl rfl (own_ref _ _) (hb hby d_prog_46_method_6_20) (by decide) (pcE := 23) (pcN := 50) (by decide) (by decide) (fun ha52 => ?_) (fun ha52 => ?_)
  · skip
    show Go _ _ _ _ _ T51 (mkF m 23 #[.val (.ref a1), .val (.ref a2), .val (.ref a2)] [])
    refine own_go (fun t k => XS.aloadN X51.here hx rfl (hb hby d_prog_46_method_6_23) rfl rfl k) ?_
    show Go _ _ _ _ _ T51 (mkF m 24 #[.val (.ref a1), .val (.ref a2), .val (.ref a2)] [(.ref a1)])
    obtain ⟨T53, X53, e53, st53⟩ := getF X51 hx hZ hown (host := "") (Or.inl (hw _ (List.mem_of_getElem? (i := 33) rfl))) Via.refl e51 F_offset_a1 (g := (mkF m 24 #[.val (.ref a1), .val (.ref a2), .val (.ref a2)] [(.ref a1)])) rfl rfl (hb hby d_prog_46_method_6_24)
    refine own_go (fun t k => st53 t k) ?_
    show Go _ _ _ _ _ T53 (mkF m 27 #[.val (.ref a1), .val (.ref a2), .val (.ref a2)] [(.long x_offset)])
    refine own_go (fun t k => XS.aloadN X53.here hx rfl (hb hby d_prog_46_method_6_27) rfl rfl k) ?_
    show Go _ _ _ _ _ T53 (mkF m 28 #[.val (.ref a1), .val (.ref a2), .val (.ref a2)] [(.ref a2), (.long x_offset)])
    obtain ⟨T54, X54, e54, st54⟩ := getF X53 hx hZ hown (host := "") (Or.inl (hw _ (List.mem_of_getElem? (i := 33) rfl))) Via.refl e53 F_offset_a2 (g := (mkF m 28 #[.val (.ref a1), .val (.ref a2), .val (.ref a2)] [(.ref a2), (.long x_offset)])) rfl rfl (hb hby d_prog_46_method_6_28)
    refine own_go (fun t k => st54 t k) ?_
    show Go _ _ _ _ _ T54 (mkF m 31 #[.val (.ref a1), .val (.ref a2), .val (.ref a2)] [(.long y_offset), (.long x_offset)])
    refine own_go (fun t k => XS.lcmp X54.here hx rfl (hb hby d_prog_46_method_6_31) rfl k) ?_
    show Go _ _ _ _ _ T54 (mkF m 32 #[.val (.ref a1), .val (.ref a2), .val (.ref a2)] [(.int (lcmpW x_offset y_offset))])
    refine own_ifM ((lcmpW x_offset y_offset) = (0 : Int32)) X54 hx (hb hby d_prog_46_method_6_32) (own_ne _ _) (by decide) (by decide) (pc' := 50) (fun hc55 => ?_) (fun hc55 => ?_)
    · skip
      show Go _ _ _ _ _ T54 (mkF m 50 #[.val (.ref a1), .val (.ref a2), .val (.ref a2)] [])
      refine own_go (fun t k => XS.iconst X54.here hx rfl (hb hby d_prog_46_method_6_50) k) ?_
      show Go _ _ _ _ _ T54 (mkF m 51 #[.val (.ref a1), .val (.ref a2), .val (.ref a2)] [(.int (0 : Int32))])
      refine own_retN X54 hx (own_lvN X54 hlk (by decide) (by decide)) (t := .boolean) hret (by simp) (hb hby d_prog_46_method_6_51) ?_
      exact ⟨(by rw [← hr, own_f_rm_eq_same, if_pos ha52, if_neg hc55]; try rfl), N0, e54⟩
    · skip
      show Go _ _ _ _ _ T54 (mkF m 35 #[.val (.ref a1), .val (.ref a2), .val (.ref a2)] [])
      refine own_go (fun t k => XS.aloadN X54.here hx rfl (hb hby d_prog_46_method_6_35) rfl rfl k) ?_
      show Go _ _ _ _ _ T54 (mkF m 36 #[.val (.ref a1), .val (.ref a2), .val (.ref a2)] [(.ref a1)])
      obtain ⟨T56, X56, e56, st56⟩ := getF X54 hx hZ hown (host := "") (Or.inl (hw _ (List.mem_of_getElem? (i := 35) rfl))) Via.refl e54 F_value_a1 (g := (mkF m 36 #[.val (.ref a1), .val (.ref a2), .val (.ref a2)] [(.ref a1)])) rfl rfl (hb hby d_prog_46_method_6_36)
      refine own_go (fun t k => st56 t k) ?_
      show Go _ _ _ _ _ T56 (mkF m 39 #[.val (.ref a1), .val (.ref a2), .val (.ref a2)] [(.int x_value)])
      refine own_go (fun t k => XS.aloadN X56.here hx rfl (hb hby d_prog_46_method_6_39) rfl rfl k) ?_
      show Go _ _ _ _ _ T56 (mkF m 40 #[.val (.ref a1), .val (.ref a2), .val (.ref a2)] [(.ref a2), (.int x_value)])
      obtain ⟨T57, X57, e57, st57⟩ := getF X56 hx hZ hown (host := "") (Or.inl (hw _ (List.mem_of_getElem? (i := 35) rfl))) Via.refl e56 F_value_a2 (g := (mkF m 40 #[.val (.ref a1), .val (.ref a2), .val (.ref a2)] [(.ref a2), (.int x_value)])) rfl rfl (hb hby d_prog_46_method_6_40)
      refine own_go (fun t k => st57 t k) ?_
      show Go _ _ _ _ _ T57 (mkF m 43 #[.val (.ref a1), .val (.ref a2), .val (.ref a2)] [(.int y_value), (.int x_value)])
      refine own_icmpM (x_value = y_value) X57 hx (hb hby d_prog_46_method_6_43) (own_ne _ _) (by decide) (by decide) (pc' := 50) (fun hc58 => ?_) (fun hc58 => ?_)
      · skip
        show Go _ _ _ _ _ T57 (mkF m 50 #[.val (.ref a1), .val (.ref a2), .val (.ref a2)] [])
        refine own_go (fun t k => XS.iconst X57.here hx rfl (hb hby d_prog_46_method_6_50) k) ?_
        show Go _ _ _ _ _ T57 (mkF m 51 #[.val (.ref a1), .val (.ref a2), .val (.ref a2)] [(.int (0 : Int32))])
        refine own_retN X57 hx (own_lvN X57 hlk (by decide) (by decide)) (t := .boolean) hret (by simp) (hb hby d_prog_46_method_6_51) ?_
        exact ⟨(by rw [← hr, own_f_rm_eq_same, if_pos ha52, if_pos hc55, if_neg hc58]; try rfl), N0, e57⟩
      · skip
        show Go _ _ _ _ _ T57 (mkF m 46 #[.val (.ref a1), .val (.ref a2), .val (.ref a2)] [])
        refine own_go (fun t k => XS.iconst X57.here hx rfl (hb hby d_prog_46_method_6_46) k) ?_
        show Go _ _ _ _ _ T57 (mkF m 47 #[.val (.ref a1), .val (.ref a2), .val (.ref a2)] [(.int (1 : Int32))])
        refine own_go (fun t k => XS.goto X57.here hx rfl (pc0 := 47) (pc' := 51) rfl (hb hby d_prog_46_method_6_47) (by decide) (by decide) k) ?_
        show Go _ _ _ _ _ T57 (mkF m 51 #[.val (.ref a1), .val (.ref a2), .val (.ref a2)] [(.int (1 : Int32))])
        refine own_retN X57 hx (own_lvN X57 hlk (by decide) (by decide)) (t := .boolean) hret (by simp) (hb hby d_prog_46_method_6_51) ?_
        exact ⟨(by rw [← hr, own_f_rm_eq_same, if_pos ha52, if_pos hc55, if_pos hc58]; try rfl), N0, e57⟩
  · skip
    show Go _ _ _ _ _ T51 (mkF m 50 #[.val (.ref a1), .val (.ref a2), .val (.ref a2)] [])
    refine own_go (fun t k => XS.iconst X51.here hx rfl (hb hby d_prog_46_method_6_50) k) ?_
    show Go _ _ _ _ _ T51 (mkF m 51 #[.val (.ref a1), .val (.ref a2), .val (.ref a2)] [(.int (0 : Int32))])
    refine own_retN X51 hx (own_lvN X51 hlk (by decide) (by decide)) (t := .boolean) hret (by simp) (hb hby d_prog_46_method_6_51) ?_
    exact ⟨(by rw [← hr, own_f_rm_eq_same, if_neg ha52]; try rfl), N0, e51⟩
def own_f_rm_eq_null  : Int32 := (0 : Int32)
theorem own_ef_rm_eq_null (m : MethodId) (x0 : Addr) : entryFrame m #[(.ref x0), .null] 3 = mkF m 0 #[.val (.ref x0), .val .null, .unset] [] := by first | (simp [entryFrame, mkF, argsToLocals, Value.category]; done) | rfl
set_option maxRecDepth 65536 in
set_option maxHeartbeats 40000000 in
theorem rm_eq_null (l : Launch) (Z : State) (a0 : Array Value) (hw : ∀ d ∈ tables_1, d.before a0 Z = true) (ws : List Jvm.Cond) (a1 : Addr) (r : Int32) (h0 : Heap) (n0 : Nat) (hn0 : n0 ≤ h0.size) (hr : own_f_rm_eq_null = r) :
    OwnMet l Z (⟨"com/example/pair16/pair16/Utf16Fault", "equals", "(Ljava/lang/Object;)Z"⟩ : MethodName) prog_46_method_6_code 3 (some .boolean) ws ({ frames := 0, cells := 0, slots := 0, locals := 0 } : Room) #[(.ref a1), .null] h0 (OwnP (some (.int r)) h0 n0) := by
  refine own_body (plainFor_of_name own_pn2) ?_
  intro p e s m below meth c s₁ X0 hx hby hml hret hlk hown0 hnm hZ e0 hs0
  have hown : s.vm.findClass "com/example/pair16/pair16/Utf16Fault" = some m.cls := hown0
  have N0 := Fr.nil n0
  refine own_entry (own_ef_rm_eq_null m a1) ?_
  show Go _ _ _ _ _ s₁ (mkF m 0 #[.val (.ref a1), .val .null, .unset] [])
  refine own_go (fun t k => XS.aloadN X0.here hx rfl (hb hby d_prog_46_method_6_0) rfl rfl k) ?_
  show Go _ _ _ _ _ s₁ (mkF m 1 #[.val (.ref a1), .val .null, .unset] [.null])
  refine own_go (fun t k => X0.instanceofNull hx (g := (mkF m 1 #[.val (.ref a1), .val .null, .unset] [.null])) rfl rfl (hb hby d_prog_46_method_6_1) _ k) ?_
  show Go _ _ _ _ _ s₁ (mkF m 4 #[.val (.ref a1), .val .null, .unset] [(.int (0 : Int32))])
  refine own_go (fun t k => XS.ifYes X0.here hx rfl (pc0 := 4) (pc' := 50) rfl (hb hby d_prog_46_method_6_4) rfl (by decide) (by decide) (by decide) k) ?_
  show Go _ _ _ _ _ s₁ (mkF m 50 #[.val (.ref a1), .val .null, .unset] [])
  refine own_go (fun t k => XS.iconst X0.here hx rfl (hb hby d_prog_46_method_6_50) k) ?_
  show Go _ _ _ _ _ s₁ (mkF m 51 #[.val (.ref a1), .val .null, .unset] [(.int (0 : Int32))])
  refine own_retN X0 hx (own_lvN X0 hlk (by decide) (by decide)) (t := .boolean) hret (by simp) (hb hby d_prog_46_method_6_51) ?_
  exact ⟨(by rw [← hr, own_f_rm_eq_null]; try rfl), N0, e0⟩
def own_f_rm_eq_other  : Int32 := (0 : Int32)
theorem own_ef_rm_eq_other (m : MethodId) (x0 : Addr) (x1 : Addr) : entryFrame m #[(.ref x0), (.ref x1)] 3 = mkF m 0 #[.val (.ref x0), .val (.ref x1), .unset] [] := by first | (simp [entryFrame, mkF, argsToLocals, Value.category]; done) | rfl
set_option maxRecDepth 65536 in
set_option maxHeartbeats 40000000 in
theorem rm_eq_other (l : Launch) (Z : State) (a0 : Array Value) (hw : ∀ d ∈ tables_1, d.before a0 Z = true) (ws : List Jvm.Cond) (a1 : Addr) (a2 : Addr) (r : Int32) (h0 : Heap) (n0 : Nat) (hn0 : n0 ≤ h0.size) (E_a2 : Exa Z h0 a2 "java/lang/Integer") (hr : own_f_rm_eq_other = r) :
    OwnMet l Z (⟨"com/example/pair16/pair16/Utf16Fault", "equals", "(Ljava/lang/Object;)Z"⟩ : MethodName) prog_46_method_6_code 3 (some .boolean) ws ({ frames := 0, cells := 0, slots := 0, locals := 0 } : Room) #[(.ref a1), (.ref a2)] h0 (OwnP (some (.int r)) h0 n0) := by
  refine own_body (plainFor_of_name own_pn2) ?_
  intro p e s m below meth c s₁ X0 hx hby hml hret hlk hown0 hnm hZ e0 hs0
  have hown : s.vm.findClass "com/example/pair16/pair16/Utf16Fault" = some m.cls := hown0
  have N0 := Fr.nil n0
  refine own_entry (own_ef_rm_eq_other m a1 a2) ?_
  show Go _ _ _ _ _ s₁ (mkF m 0 #[.val (.ref a1), .val (.ref a2), .unset] [])
  refine own_go (fun t k => XS.aloadN X0.here hx rfl (hb hby d_prog_46_method_6_0) rfl rfl k) ?_
  show Go _ _ _ _ _ s₁ (mkF m 1 #[.val (.ref a1), .val (.ref a2), .unset] [(.ref a2)])
  have I62 : Ins Z s.heap a2 "com/example/pair16/pair16/Utf16Fault" false := by rw [hs0]; exact (own_nins E_a2 (hw _ (List.mem_of_getElem? (i := 9) rfl)) (hw _ (List.mem_of_getElem? (i := 51) rfl)) (by decide) (own_nsub_up (hw _ (List.mem_of_getElem? (i := 51) rfl)) (by decide) (own_nsub_up (hw _ (List.mem_of_getElem? (i := 52) rfl)) (by decide) (own_nsub_root (hw _ (List.mem_of_getElem? (i := 53) rfl)) (by decide)))))
  have J62 : Exa Z s.heap a2 "java/lang/Integer" := by rw [hs0]; exact E_a2
  obtain ⟨T62, X62, e62, st62⟩ := instN X0 hx hZ hown (hw _ (List.mem_of_getElem? (i := 49) rfl)) e0 I62 J62 (g := (mkF m 1 #[.val (.ref a1), .val (.ref a2), .unset] [(.ref a2)])) rfl rfl (hb hby d_prog_46_method_6_1)
  refine own_go (fun t k => st62 t k) ?_
  show Go _ _ _ _ _ T62 (mkF m 4 #[.val (.ref a1), .val (.ref a2), .unset] [(.int (0 : Int32))])
  refine own_go (fun t k => XS.ifYes X62.here hx rfl (pc0 := 4) (pc' := 50) rfl (hb hby d_prog_46_method_6_4) rfl (by decide) (by decide) (by decide) k) ?_
  show Go _ _ _ _ _ T62 (mkF m 50 #[.val (.ref a1), .val (.ref a2), .unset] [])
  refine own_go (fun t k => XS.iconst X62.here hx rfl (hb hby d_prog_46_method_6_50) k) ?_
  show Go _ _ _ _ _ T62 (mkF m 51 #[.val (.ref a1), .val (.ref a2), .unset] [(.int (0 : Int32))])
  refine own_retN X62 hx (own_lvN X62 hlk (by decide) (by decide)) (t := .boolean) hret (by simp) (hb hby d_prog_46_method_6_51) ?_
  exact ⟨(by rw [← hr, own_f_rm_eq_other]; try rfl), N0, e62⟩
theorem own_pd3 : parseMethodDescriptor "(I)Lcom/example/pair16/pair16/Utf16Fault$Kind;" = some ⟨[.int], some (.object "com/example/pair16/pair16/Utf16Fault$Kind")⟩ := by decide +kernel
theorem own_pd4 : parseMethodDescriptor "(Lcom/example/pair16/pair16/Utf16Fault$Kind;JI)V" = some ⟨[(.object "com/example/pair16/pair16/Utf16Fault$Kind"), .long, .int], none⟩ := by decide +kernel
theorem own_pd5 : parseMethodDescriptor "(I)Ljava/lang/Integer;" = some ⟨[.int], some (.object "java/lang/Integer")⟩ := by decide +kernel
theorem own_pd6 : parseMethodDescriptor "(Ljava/lang/Object;)Z" = some ⟨[(.object "java/lang/Object")], some .boolean⟩ := by decide +kernel
theorem own_ef_rm0 (m : MethodId) (x0 : Int32) (x1 : Int64) (x2 : Int64) (x3 : Int32) (x4 : Int32) (x5 : Int32) : entryFrame m #[(.int x0), (.long x1), (.long x2), (.int x3), (.int x4), (.int x5)] maxLocals = mkF m 0 #[.val (.int x0), .val (.long x1), .second, .val (.long x2), .second, .val (.int x3), .val (.int x4), .val (.int x5), .unset, .unset, .unset, .unset, .unset, .unset, .unset, .unset, .unset, .unset, .unset] [] := by first | (simp [entryFrame, mkF, argsToLocals, Value.category, maxLocals]; done) | rfl
set_option maxRecDepth 65536 in
set_option maxHeartbeats 40000000 in
theorem rm0 (l : Launch) (Z : State) (a0 : Array Value) (hw : ∀ d ∈ tables_1, d.before a0 Z = true) (ws : List Jvm.Cond) (p1 : Int32) (p2 : Int64) (p3 : Int64) (p4 : Int32) (p5 : Int32) (p6 : Int32) (w_LONE_LOW_SURROGATE : Addr) (w_HIGH_SURROGATE_AT_END : Addr) (w_REVERSED_BYTE_ORDER_MARK : Addr) (w_ODD_TRAILING_BYTE : Addr) (w_UNPAIRED_HIGH_SURROGATE : Addr) (ca : Addr) (h0 : Heap) (n0 : Nat) (hn0 : n0 ≤ h0.size) (S_LONE_LOW_SURROGATE : Sta Z h0 "com/example/pair16/pair16/Utf16Fault$Kind" "LONE_LOW_SURROGATE" "Lcom/example/pair16/pair16/Utf16Fault$Kind;" (.ref w_LONE_LOW_SURROGATE)) (E_LONE_LOW_SURROGATE : Exa Z h0 w_LONE_LOW_SURROGATE "com/example/pair16/pair16/Utf16Fault$Kind") (O_LONE_LOW_SURROGATE_ordinal : Fld Z h0 w_LONE_LOW_SURROGATE "java/lang/Enum" "ordinal" "I" (.int (0 : Int32))) (S_HIGH_SURROGATE_AT_END : Sta Z h0 "com/example/pair16/pair16/Utf16Fault$Kind" "HIGH_SURROGATE_AT_END" "Lcom/example/pair16/pair16/Utf16Fault$Kind;" (.ref w_HIGH_SURROGATE_AT_END)) (E_HIGH_SURROGATE_AT_END : Exa Z h0 w_HIGH_SURROGATE_AT_END "com/example/pair16/pair16/Utf16Fault$Kind") (O_HIGH_SURROGATE_AT_END_ordinal : Fld Z h0 w_HIGH_SURROGATE_AT_END "java/lang/Enum" "ordinal" "I" (.int (2 : Int32))) (S_REVERSED_BYTE_ORDER_MARK : Sta Z h0 "com/example/pair16/pair16/Utf16Fault$Kind" "REVERSED_BYTE_ORDER_MARK" "Lcom/example/pair16/pair16/Utf16Fault$Kind;" (.ref w_REVERSED_BYTE_ORDER_MARK)) (E_REVERSED_BYTE_ORDER_MARK : Exa Z h0 w_REVERSED_BYTE_ORDER_MARK "com/example/pair16/pair16/Utf16Fault$Kind") (O_REVERSED_BYTE_ORDER_MARK_ordinal : Fld Z h0 w_REVERSED_BYTE_ORDER_MARK "java/lang/Enum" "ordinal" "I" (.int (4 : Int32))) (S_ODD_TRAILING_BYTE : Sta Z h0 "com/example/pair16/pair16/Utf16Fault$Kind" "ODD_TRAILING_BYTE" "Lcom/example/pair16/pair16/Utf16Fault$Kind;" (.ref w_ODD_TRAILING_BYTE)) (E_ODD_TRAILING_BYTE : Exa Z h0 w_ODD_TRAILING_BYTE "com/example/pair16/pair16/Utf16Fault$Kind") (O_ODD_TRAILING_BYTE_ordinal : Fld Z h0 w_ODD_TRAILING_BYTE "java/lang/Enum" "ordinal" "I" (.int (3 : Int32))) (S_UNPAIRED_HIGH_SURROGATE : Sta Z h0 "com/example/pair16/pair16/Utf16Fault$Kind" "UNPAIRED_HIGH_SURROGATE" "Lcom/example/pair16/pair16/Utf16Fault$Kind;" (.ref w_UNPAIRED_HIGH_SURROGATE)) (E_UNPAIRED_HIGH_SURROGATE : Exa Z h0 w_UNPAIRED_HIGH_SURROGATE "com/example/pair16/pair16/Utf16Fault$Kind") (O_UNPAIRED_HIGH_SURROGATE_ordinal : Fld Z h0 w_UNPAIRED_HIGH_SURROGATE "java/lang/Enum" "ordinal" "I" (.int (1 : Int32))) (S_high : Sta Z h0 "java/lang/Integer$IntegerCache" "high" "I" (.int (127 : Int32))) (S_cache : Sta Z h0 "java/lang/Integer$IntegerCache" "cache" "[Ljava/lang/Integer;" (.ref ca)) (Ca : OwnCache Z h0 ca) :
    OwnMetW l Z x code maxLocals ret ws room_1 #[(.int p1), (.long p2), (.long p3), (.int p4), (.int p5), (.int p6)] h0 (OwnR (some (.int 1)) n0) := by
  refine own_bodyW (plainFor_of_name own_pn0) ?_
  intro p e s m below meth c s₁ X0 hx hby hml hret hlk hown0 hnm hZ e0 hs0 hS
  have hown : (s.setVm s.vm).vm.findClass "com/example/pair16/pair16/Utf16FaultEqualsPinLaw" = some m.cls := hown0
  have N0 := Fr.nil n0
  refine own_entry (own_ef_rm0 m p1 p2 p3 p4 p5 p6) ?_
  have D_w_LONE_LOW_SURROGATE_w_HIGH_SURROGATE_AT_END : ¬ w_LONE_LOW_SURROGATE = w_HIGH_SURROGATE_AT_END := own_ne_fld O_LONE_LOW_SURROGATE_ordinal O_HIGH_SURROGATE_AT_END_ordinal (by decide)
  have D_w_LONE_LOW_SURROGATE_w_REVERSED_BYTE_ORDER_MARK : ¬ w_LONE_LOW_SURROGATE = w_REVERSED_BYTE_ORDER_MARK := own_ne_fld O_LONE_LOW_SURROGATE_ordinal O_REVERSED_BYTE_ORDER_MARK_ordinal (by decide)
  have D_w_LONE_LOW_SURROGATE_w_ODD_TRAILING_BYTE : ¬ w_LONE_LOW_SURROGATE = w_ODD_TRAILING_BYTE := own_ne_fld O_LONE_LOW_SURROGATE_ordinal O_ODD_TRAILING_BYTE_ordinal (by decide)
  have D_w_LONE_LOW_SURROGATE_w_UNPAIRED_HIGH_SURROGATE : ¬ w_LONE_LOW_SURROGATE = w_UNPAIRED_HIGH_SURROGATE := own_ne_fld O_LONE_LOW_SURROGATE_ordinal O_UNPAIRED_HIGH_SURROGATE_ordinal (by decide)
  have D_w_HIGH_SURROGATE_AT_END_w_REVERSED_BYTE_ORDER_MARK : ¬ w_HIGH_SURROGATE_AT_END = w_REVERSED_BYTE_ORDER_MARK := own_ne_fld O_HIGH_SURROGATE_AT_END_ordinal O_REVERSED_BYTE_ORDER_MARK_ordinal (by decide)
  have D_w_HIGH_SURROGATE_AT_END_w_ODD_TRAILING_BYTE : ¬ w_HIGH_SURROGATE_AT_END = w_ODD_TRAILING_BYTE := own_ne_fld O_HIGH_SURROGATE_AT_END_ordinal O_ODD_TRAILING_BYTE_ordinal (by decide)
  have D_w_HIGH_SURROGATE_AT_END_w_UNPAIRED_HIGH_SURROGATE : ¬ w_HIGH_SURROGATE_AT_END = w_UNPAIRED_HIGH_SURROGATE := own_ne_fld O_HIGH_SURROGATE_AT_END_ordinal O_UNPAIRED_HIGH_SURROGATE_ordinal (by decide)
  have D_w_REVERSED_BYTE_ORDER_MARK_w_ODD_TRAILING_BYTE : ¬ w_REVERSED_BYTE_ORDER_MARK = w_ODD_TRAILING_BYTE := own_ne_fld O_REVERSED_BYTE_ORDER_MARK_ordinal O_ODD_TRAILING_BYTE_ordinal (by decide)
  have D_w_REVERSED_BYTE_ORDER_MARK_w_UNPAIRED_HIGH_SURROGATE : ¬ w_REVERSED_BYTE_ORDER_MARK = w_UNPAIRED_HIGH_SURROGATE := own_ne_fld O_REVERSED_BYTE_ORDER_MARK_ordinal O_UNPAIRED_HIGH_SURROGATE_ordinal (by decide)
  have D_w_ODD_TRAILING_BYTE_w_UNPAIRED_HIGH_SURROGATE : ¬ w_ODD_TRAILING_BYTE = w_UNPAIRED_HIGH_SURROGATE := own_ne_fld O_ODD_TRAILING_BYTE_ordinal O_UNPAIRED_HIGH_SURROGATE_ordinal (by decide)
  show Go _ _ _ _ _ s₁ (mkF m 0 #[.val (.int p1), .val (.long p2), .second, .val (.long p3), .second, .val (.int p4), .val (.int p5), .val (.int p6), .unset, .unset, .unset, .unset, .unset, .unset, .unset, .unset, .unset, .unset, .unset] [])
  refine own_go (fun t k => XS.iloadN X0.here hx rfl (hb hby at_0) rfl k) ?_
  show Go _ _ _ _ _ s₁ (mkF m 1 #[.val (.int p1), .val (.long p2), .second, .val (.long p3), .second, .val (.int p4), .val (.int p5), .val (.int p6), .unset, .unset, .unset, .unset, .unset, .unset, .unset, .unset, .unset, .unset, .unset] [(.int p1)])
  refine own_go (fun t k => X0.ldcInt hx hown (mvT hZ (hw _ (List.mem_of_getElem? (i := 0) rfl))) (g := (mkF m 1 #[.val (.int p1), .val (.long p2), .second, .val (.long p3), .second, .val (.int p4), .val (.int p5), .val (.int p6), .unset, .unset, .unset, .unset, .unset, .unset, .unset, .unset, .unset, .unset, .unset] [(.int p1)])) rfl (hb hby at_1) _ k) ?_
  show Go _ _ _ _ _ s₁ (mkF m 3 #[.val (.int p1), .val (.long p2), .second, .val (.long p3), .second, .val (.int p4), .val (.int p5), .val (.int p6), .unset, .unset, .unset, .unset, .unset, .unset, .unset, .unset, .unset, .unset, .unset] [(.int (2147483647 : Int32)), (.int p1)])
  refine own_go (fun t k => XS.iand X0.here hx rfl (hb hby at_3) rfl k) ?_
  show Go _ _ _ _ _ s₁ (mkF m 4 #[.val (.int p1), .val (.long p2), .second, .val (.long p3), .second, .val (.int p4), .val (.int p5), .val (.int p6), .unset, .unset, .unset, .unset, .unset, .unset, .unset, .unset, .unset, .unset, .unset] [(.int (p1 &&& (2147483647 : Int32)))])
  refine own_go (fun t k => XS.iconst X0.here hx rfl (hb hby at_4) k) ?_
  show Go _ _ _ _ _ s₁ (mkF m 5 #[.val (.int p1), .val (.long p2), .second, .val (.long p3), .second, .val (.int p4), .val (.int p5), .val (.int p6), .unset, .unset, .unset, .unset, .unset, .unset, .unset, .unset, .unset, .unset, .unset] [(.int (5 : Int32)), (.int (p1 &&& (2147483647 : Int32)))])
  refine own_go (fun t k => iremM X0 hx rfl (hb hby at_5) rfl (by decide) k) ?_
  show Go _ _ _ _ _ s₁ (mkF m 6 #[.val (.int p1), .val (.long p2), .second, .val (.long p3), .second, .val (.int p4), .val (.int p5), .val (.int p6), .unset, .unset, .unset, .unset, .unset, .unset, .unset, .unset, .unset, .unset, .unset] [(.int ((p1 &&& (2147483647 : Int32)) % (5 : Int32)))])
  refine own_go (fun t k => XS.istore X0.here hx rfl (hb hby at_6) rfl (l' := #[.val (.int p1), .val (.long p2), .second, .val (.long p3), .second, .val (.int p4), .val (.int p5), .val (.int p6), .val (.int ((p1 &&& (2147483647 : Int32)) % (5 : Int32))), .unset, .unset, .unset, .unset, .unset, .unset, .unset, .unset, .unset, .unset]) rfl k) ?_
  show Go _ _ _ _ _ s₁ (mkF m 8 #[.val (.int p1), .val (.long p2), .second, .val (.long p3), .second, .val (.int p4), .val (.int p5), .val (.int p6), .val (.int ((p1 &&& (2147483647 : Int32)) % (5 : Int32))), .unset, .unset, .unset, .unset, .unset, .unset, .unset, .unset, .unset, .unset] [])
  have h1 := own_k5 p1
  generalize ((p1 &&& (2147483647 : Int32)) % (5 : Int32)) = i1 at h1 ⊢
  show Go _ _ _ _ _ s₁ (mkF m 8 #[.val (.int p1), .val (.long p2), .second, .val (.long p3), .second, .val (.int p4), .val (.int p5), .val (.int p6), .val (.int i1), .unset, .unset, .unset, .unset, .unset, .unset, .unset, .unset, .unset, .unset] [])
  refine own_go (fun t k => XS.iload X0.here hx rfl (hb hby at_8) rfl k) ?_
  show Go _ _ _ _ _ s₁ (mkF m 10 #[.val (.int p1), .val (.long p2), .second, .val (.long p3), .second, .val (.int p4), .val (.int p5), .val (.int p6), .val (.int i1), .unset, .unset, .unset, .unset, .unset, .unset, .unset, .unset, .unset, .unset] [(.int p6)])
  refine own_go (fun t k => XS.iconst X0.here hx rfl (hb hby at_10) k) ?_
  show Go _ _ _ _ _ s₁ (mkF m 11 #[.val (.int p1), .val (.long p2), .second, .val (.long p3), .second, .val (.int p4), .val (.int p5), .val (.int p6), .val (.int i1), .unset, .unset, .unset, .unset, .unset, .unset, .unset, .unset, .unset, .unset] [(.int (4 : Int32)), (.int p6)])
  refine own_go (fun t k => XS.iand X0.here hx rfl (hb hby at_11) rfl k) ?_
  have J63 : ∀ (i2 : Int32), OwnK5 i2 → Go p e below (EndW s (room_1.cells) (room_1.slots)) (OwnR (some (.int 1)) n0) s₁ (mkF m 28 #[.val (.int p1), .val (.long p2), .second, .val (.long p3), .second, .val (.int p4), .val (.int p5), .val (.int p6), .val (.int i1), .val (.int i2), .unset, .unset, .unset, .unset, .unset, .unset, .unset, .unset, .unset] []) := by
    intro i2 h_i2
    show Go _ _ _ _ _ s₁ (mkF m 28 #[.val (.int p1), .val (.long p2), .second, .val (.long p3), .second, .val (.int p4), .val (.int p5), .val (.int p6), .val (.int i1), .val (.int i2), .unset, .unset, .unset, .unset, .unset, .unset, .unset, .unset, .unset] [])
    refine own_go (fun t k => XS.iload X0.here hx rfl (hb hby at_28) rfl k) ?_
    show Go _ _ _ _ _ s₁ (mkF m 30 #[.val (.int p1), .val (.long p2), .second, .val (.long p3), .second, .val (.int p4), .val (.int p5), .val (.int p6), .val (.int i1), .val (.int i2), .unset, .unset, .unset, .unset, .unset, .unset, .unset, .unset, .unset] [(.int p6)])
    refine own_go (fun t k => XS.iconst X0.here hx rfl (hb hby at_30) k) ?_
    show Go _ _ _ _ _ s₁ (mkF m 31 #[.val (.int p1), .val (.long p2), .second, .val (.long p3), .second, .val (.int p4), .val (.int p5), .val (.int p6), .val (.int i1), .val (.int i2), .unset, .unset, .unset, .unset, .unset, .unset, .unset, .unset, .unset] [(.int (1 : Int32)), (.int p6)])
    refine own_go (fun t k => XS.iand X0.here hx rfl (hb hby at_31) rfl k) ?_
    have J64 : ∀ (q10 : Int64), Go p e below (EndW s (room_1.cells) (room_1.slots)) (OwnR (some (.int 1)) n0) s₁ (mkF m 42 #[.val (.int p1), .val (.long p2), .second, .val (.long p3), .second, .val (.int p4), .val (.int p5), .val (.int p6), .val (.int i1), .val (.int i2), .val (.long q10), .second, .unset, .unset, .unset, .unset, .unset, .unset, .unset] []) := by
      intro q10
      show Go _ _ _ _ _ s₁ (mkF m 42 #[.val (.int p1), .val (.long p2), .second, .val (.long p3), .second, .val (.int p4), .val (.int p5), .val (.int p6), .val (.int i1), .val (.int i2), .val (.long q10), .second, .unset, .unset, .unset, .unset, .unset, .unset, .unset] [])
      refine own_go (fun t k => XS.iload X0.here hx rfl (hb hby at_42) rfl k) ?_
      show Go _ _ _ _ _ s₁ (mkF m 44 #[.val (.int p1), .val (.long p2), .second, .val (.long p3), .second, .val (.int p4), .val (.int p5), .val (.int p6), .val (.int i1), .val (.int i2), .val (.long q10), .second, .unset, .unset, .unset, .unset, .unset, .unset, .unset] [(.int p6)])
      refine own_go (fun t k => XS.iconst X0.here hx rfl (hb hby at_44) k) ?_
      show Go _ _ _ _ _ s₁ (mkF m 45 #[.val (.int p1), .val (.long p2), .second, .val (.long p3), .second, .val (.int p4), .val (.int p5), .val (.int p6), .val (.int i1), .val (.int i2), .val (.long q10), .second, .unset, .unset, .unset, .unset, .unset, .unset, .unset] [(.int (2 : Int32)), (.int p6)])
      refine own_go (fun t k => XS.iand X0.here hx rfl (hb hby at_45) rfl k) ?_
      have J65 : ∀ (q12 : Int32), Go p e below (EndW s (room_1.cells) (room_1.slots)) (OwnR (some (.int 1)) n0) s₁ (mkF m 58 #[.val (.int p1), .val (.long p2), .second, .val (.long p3), .second, .val (.int p4), .val (.int p5), .val (.int p6), .val (.int i1), .val (.int i2), .val (.long q10), .second, .val (.int q12), .unset, .unset, .unset, .unset, .unset, .unset] []) := by
        intro q12
        obtain ⟨ka, hka, E_ka⟩ := own_kind_ex i1 w_LONE_LOW_SURROGATE w_HIGH_SURROGATE_AT_END w_REVERSED_BYTE_ORDER_MARK w_ODD_TRAILING_BYTE w_UNPAIRED_HIGH_SURROGATE (fun z => Exa Z h0 z "com/example/pair16/pair16/Utf16Fault$Kind") E_LONE_LOW_SURROGATE E_HIGH_SURROGATE_AT_END E_REVERSED_BYTE_ORDER_MARK E_ODD_TRAILING_BYTE E_UNPAIRED_HIGH_SURROGATE h1
        obtain ⟨kb, hkb, E_kb⟩ := own_kind_ex i2 w_LONE_LOW_SURROGATE w_HIGH_SURROGATE_AT_END w_REVERSED_BYTE_ORDER_MARK w_ODD_TRAILING_BYTE w_UNPAIRED_HIGH_SURROGATE (fun z => Exa Z h0 z "com/example/pair16/pair16/Utf16Fault$Kind") E_LONE_LOW_SURROGATE E_HIGH_SURROGATE_AT_END E_REVERSED_BYTE_ORDER_MARK E_ODD_TRAILING_BYTE E_UNPAIRED_HIGH_SURROGATE h_i2
        show Go _ _ _ _ _ s₁ (mkF m 58 #[.val (.int p1), .val (.long p2), .second, .val (.long p3), .second, .val (.int p4), .val (.int p5), .val (.int p6), .val (.int i1), .val (.int i2), .val (.long q10), .second, .val (.int q12), .unset, .unset, .unset, .unset, .unset, .unset] [])
        refine own_go (fun t k => XS.iload X0.here hx rfl (hb hby at_58) rfl k) ?_
        show Go _ _ _ _ _ s₁ (mkF m 60 #[.val (.int p1), .val (.long p2), .second, .val (.long p3), .second, .val (.int p4), .val (.int p5), .val (.int p6), .val (.int i1), .val (.int i2), .val (.long q10), .second, .val (.int q12), .unset, .unset, .unset, .unset, .unset, .unset] [(.int i1)])
        refine own_callS X0 hx hZ (y := (⟨"com/example/pair16/pair16/Utf16FaultEqualsPinLaw", "kindOf", "(I)Lcom/example/pair16/pair16/Utf16Fault$Kind;"⟩ : MethodName)) hown (hw _ (List.mem_of_getElem? (i := 1) rfl)) (hw _ (List.mem_of_getElem? (i := 2) rfl)) (hw _ (List.mem_of_getElem? (i := 3) rfl)) (hw _ (List.mem_of_getElem? (i := 4) rfl)) (by decide) (rm_kind l Z a0 hw [] i1 w_LONE_LOW_SURROGATE w_HIGH_SURROGATE_AT_END w_REVERSED_BYTE_ORDER_MARK w_ODD_TRAILING_BYTE w_UNPAIRED_HIGH_SURROGATE (.ref ka) h0 n0 hn0 S_LONE_LOW_SURROGATE S_HIGH_SURROGATE_AT_END S_REVERSED_BYTE_ORDER_MARK S_ODD_TRAILING_BYTE S_UNPAIRED_HIGH_SURROGATE hka) e0 (by rw [hml]; rfl) (argsL := [(.int i1)]) (rest := []) rfl rfl (lenOf own_pd3 rfl) (W := 0) (Nat.le_of_eq rfl) (by decide) (by decide) (hb hby at_60) (by decide) (by decide) ?_
        intro v66 T66 L66 X66 q66
        obtain ⟨rfl, N66q, e66⟩ := q66
        have N66 := Fr.app N0 N66q
        show Go _ _ _ _ _ T66 (mkF m 63 #[.val (.int p1), .val (.long p2), .second, .val (.long p3), .second, .val (.int p4), .val (.int p5), .val (.int p6), .val (.int i1), .val (.int i2), .val (.long q10), .second, .val (.int q12), .unset, .unset, .unset, .unset, .unset, .unset] [(.ref ka)])
        refine own_go (fun t k => XS.astore X66.here hx rfl (hb hby at_63) rfl rfl (l' := #[.val (.int p1), .val (.long p2), .second, .val (.long p3), .second, .val (.int p4), .val (.int p5), .val (.int p6), .val (.int i1), .val (.int i2), .val (.long q10), .second, .val (.int q12), .val (.ref ka), .unset, .unset, .unset, .unset, .unset]) rfl k) ?_
        show Go _ _ _ _ _ T66 (mkF m 65 #[.val (.int p1), .val (.long p2), .second, .val (.long p3), .second, .val (.int p4), .val (.int p5), .val (.int p6), .val (.int i1), .val (.int i2), .val (.long q10), .second, .val (.int q12), .val (.ref ka), .unset, .unset, .unset, .unset, .unset] [])
        refine own_go (fun t k => XS.iload X66.here hx rfl (hb hby at_65) rfl k) ?_
        show Go _ _ _ _ _ T66 (mkF m 67 #[.val (.int p1), .val (.long p2), .second, .val (.long p3), .second, .val (.int p4), .val (.int p5), .val (.int p6), .val (.int i1), .val (.int i2), .val (.long q10), .second, .val (.int q12), .val (.ref ka), .unset, .unset, .unset, .unset, .unset] [(.int i2)])
        refine own_callS X66 hx hZ (y := (⟨"com/example/pair16/pair16/Utf16FaultEqualsPinLaw", "kindOf", "(I)Lcom/example/pair16/pair16/Utf16Fault$Kind;"⟩ : MethodName)) hown (hw _ (List.mem_of_getElem? (i := 1) rfl)) (hw _ (List.mem_of_getElem? (i := 2) rfl)) (hw _ (List.mem_of_getElem? (i := 3) rfl)) (hw _ (List.mem_of_getElem? (i := 4) rfl)) (by decide) (rm_kind l Z a0 hw [] i2 w_LONE_LOW_SURROGATE w_HIGH_SURROGATE_AT_END w_REVERSED_BYTE_ORDER_MARK w_ODD_TRAILING_BYTE w_UNPAIRED_HIGH_SURROGATE (.ref kb) h0 n0 hn0 S_LONE_LOW_SURROGATE S_HIGH_SURROGATE_AT_END S_REVERSED_BYTE_ORDER_MARK S_ODD_TRAILING_BYTE S_UNPAIRED_HIGH_SURROGATE hkb) e66 (by rw [hml]; rfl) (argsL := [(.int i2)]) (rest := []) rfl rfl (lenOf own_pd3 rfl) (W := 0) (Nat.le_of_eq rfl) (by decide) (by decide) (hb hby at_67) (by decide) (by decide) ?_
        intro v67 T67 L67 X67 q67
        obtain ⟨rfl, N67q, e67⟩ := q67
        have N67 := Fr.app N66 N67q
        show Go _ _ _ _ _ T67 (mkF m 70 #[.val (.int p1), .val (.long p2), .second, .val (.long p3), .second, .val (.int p4), .val (.int p5), .val (.int p6), .val (.int i1), .val (.int i2), .val (.long q10), .second, .val (.int q12), .val (.ref ka), .unset, .unset, .unset, .unset, .unset] [(.ref kb)])
        refine own_go (fun t k => XS.astore X67.here hx rfl (hb hby at_70) rfl rfl (l' := #[.val (.int p1), .val (.long p2), .second, .val (.long p3), .second, .val (.int p4), .val (.int p5), .val (.int p6), .val (.int i1), .val (.int i2), .val (.long q10), .second, .val (.int q12), .val (.ref ka), .val (.ref kb), .unset, .unset, .unset, .unset]) rfl k) ?_
        show Go _ _ _ _ _ T67 (mkF m 72 #[.val (.int p1), .val (.long p2), .second, .val (.long p3), .second, .val (.int p4), .val (.int p5), .val (.int p6), .val (.int i1), .val (.int i2), .val (.long q10), .second, .val (.int q12), .val (.ref ka), .val (.ref kb), .unset, .unset, .unset, .unset] [])
        obtain ⟨T68, h68, X68, e68, E68, A68, D68, -, st68⟩ := newO X67 hx hZ hown (hw _ (List.mem_of_getElem? (i := 8) rfl)) (hw _ (List.mem_of_getElem? (i := 9) rfl)) (hw _ (List.mem_of_getElem? (i := 10) rfl)) e67 (g := (mkF m 72 #[.val (.int p1), .val (.long p2), .second, .val (.long p3), .second, .val (.int p4), .val (.int p5), .val (.int p6), .val (.int i1), .val (.int i2), .val (.long q10), .second, .val (.int q12), .val (.ref ka), .val (.ref kb), .unset, .unset, .unset, .unset] [])) rfl (hb hby at_72) (by decide) (by decide)
        obtain ⟨b68, g68⟩ : ∃ z, z = h0.size := ⟨_, rfl⟩
        rw [← g68] at A68 D68 st68
        have ne_w_LONE_LOW_SURROGATE_b68 : ¬ w_LONE_LOW_SURROGATE = b68 := Nat.ne_of_lt (by rw [g68]; exact E_LONE_LOW_SURROGATE.lt)
        have ne_w_HIGH_SURROGATE_AT_END_b68 : ¬ w_HIGH_SURROGATE_AT_END = b68 := Nat.ne_of_lt (by rw [g68]; exact E_HIGH_SURROGATE_AT_END.lt)
        have ne_w_REVERSED_BYTE_ORDER_MARK_b68 : ¬ w_REVERSED_BYTE_ORDER_MARK = b68 := Nat.ne_of_lt (by rw [g68]; exact E_REVERSED_BYTE_ORDER_MARK.lt)
        have ne_w_ODD_TRAILING_BYTE_b68 : ¬ w_ODD_TRAILING_BYTE = b68 := Nat.ne_of_lt (by rw [g68]; exact E_ODD_TRAILING_BYTE.lt)
        have ne_w_UNPAIRED_HIGH_SURROGATE_b68 : ¬ w_UNPAIRED_HIGH_SURROGATE = b68 := Nat.ne_of_lt (by rw [g68]; exact E_UNPAIRED_HIGH_SURROGATE.lt)
        have ne_ka_b68 : ¬ ka = b68 := Nat.ne_of_lt (by rw [g68]; exact E_ka.lt)
        have ne_kb_b68 : ¬ kb = b68 := Nat.ne_of_lt (by rw [g68]; exact E_kb.lt)
        have ne_ca_b68 : ¬ ca = b68 := Nat.ne_of_lt (by rw [g68]; exact Ca.lt)
        replace S_LONE_LOW_SURROGATE := S_LONE_LOW_SURROGATE.ext E68
        replace S_HIGH_SURROGATE_AT_END := S_HIGH_SURROGATE_AT_END.ext E68
        replace S_REVERSED_BYTE_ORDER_MARK := S_REVERSED_BYTE_ORDER_MARK.ext E68
        replace S_ODD_TRAILING_BYTE := S_ODD_TRAILING_BYTE.ext E68
        replace S_UNPAIRED_HIGH_SURROGATE := S_UNPAIRED_HIGH_SURROGATE.ext E68
        replace S_high := S_high.ext E68
        replace S_cache := S_cache.ext E68
        replace E_LONE_LOW_SURROGATE := E_LONE_LOW_SURROGATE.ext E68
        replace E_HIGH_SURROGATE_AT_END := E_HIGH_SURROGATE_AT_END.ext E68
        replace E_REVERSED_BYTE_ORDER_MARK := E_REVERSED_BYTE_ORDER_MARK.ext E68
        replace E_ODD_TRAILING_BYTE := E_ODD_TRAILING_BYTE.ext E68
        replace E_UNPAIRED_HIGH_SURROGATE := E_UNPAIRED_HIGH_SURROGATE.ext E68
        replace E_ka := E_ka.ext E68
        replace E_kb := E_kb.ext E68
        replace O_LONE_LOW_SURROGATE_ordinal := O_LONE_LOW_SURROGATE_ordinal.ext E68
        replace O_HIGH_SURROGATE_AT_END_ordinal := O_HIGH_SURROGATE_AT_END_ordinal.ext E68
        replace O_REVERSED_BYTE_ORDER_MARK_ordinal := O_REVERSED_BYTE_ORDER_MARK_ordinal.ext E68
        replace O_ODD_TRAILING_BYTE_ordinal := O_ODD_TRAILING_BYTE_ordinal.ext E68
        replace O_UNPAIRED_HIGH_SURROGATE_ordinal := O_UNPAIRED_HIGH_SURROGATE_ordinal.ext E68
        replace Ca := Ca.ext E68
        have g_b68 : n0 ≤ b68 := by rw [g68]; exact hn0
        have hn68 : n0 ≤ h68.size := Nat.le_trans hn0 E68.1
        have hk68 := Nat.le_trans (Nat.le_refl h0.size) E68.1
        have F_kind_b68 : Fld Z h68 b68 "com/example/pair16/pair16/Utf16Fault" "kind" "Lcom/example/pair16/pair16/Utf16Fault$Kind;" .null := D68 (Or.inr (hw _ (List.mem_of_getElem? (i := 32) rfl))) (ty := (.object "com/example/pair16/pair16/Utf16Fault$Kind")) (by decide)
        have F_offset_b68 : Fld Z h68 b68 "com/example/pair16/pair16/Utf16Fault" "offset" "J" (.long (0 : Int64)) := D68 (Or.inr (hw _ (List.mem_of_getElem? (i := 34) rfl))) (ty := .long) (by decide)
        have F_value_b68 : Fld Z h68 b68 "com/example/pair16/pair16/Utf16Fault" "value" "I" (.int (0 : Int32)) := D68 (Or.inr (hw _ (List.mem_of_getElem? (i := 36) rfl))) (ty := .int) (by decide)
        refine own_go (fun t k => st68 t k) ?_
        show Go _ _ _ _ _ T68 (mkF m 75 #[.val (.int p1), .val (.long p2), .second, .val (.long p3), .second, .val (.int p4), .val (.int p5), .val (.int p6), .val (.int i1), .val (.int i2), .val (.long q10), .second, .val (.int q12), .val (.ref ka), .val (.ref kb), .unset, .unset, .unset, .unset] [(.ref b68)])
        refine own_go (fun t k => XS.dup X68.here hx rfl (hb hby at_75) rfl rfl k) ?_
        show Go _ _ _ _ _ T68 (mkF m 76 #[.val (.int p1), .val (.long p2), .second, .val (.long p3), .second, .val (.int p4), .val (.int p5), .val (.int p6), .val (.int i1), .val (.int i2), .val (.long q10), .second, .val (.int q12), .val (.ref ka), .val (.ref kb), .unset, .unset, .unset, .unset] [(.ref b68), (.ref b68)])
        refine own_go (fun t k => XS.aload X68.here hx rfl (hb hby at_76) rfl rfl k) ?_
        show Go _ _ _ _ _ T68 (mkF m 78 #[.val (.int p1), .val (.long p2), .second, .val (.long p3), .second, .val (.int p4), .val (.int p5), .val (.int p6), .val (.int i1), .val (.int i2), .val (.long q10), .second, .val (.int q12), .val (.ref ka), .val (.ref kb), .unset, .unset, .unset, .unset] [(.ref ka), (.ref b68), (.ref b68)])
        refine own_go (fun t k => XS.lloadN X68.here hx rfl (hb hby at_78) rfl k) ?_
        show Go _ _ _ _ _ T68 (mkF m 79 #[.val (.int p1), .val (.long p2), .second, .val (.long p3), .second, .val (.int p4), .val (.int p5), .val (.int p6), .val (.int i1), .val (.int i2), .val (.long q10), .second, .val (.int q12), .val (.ref ka), .val (.ref kb), .unset, .unset, .unset, .unset] [(.long p2), (.ref ka), (.ref b68), (.ref b68)])
        refine own_go (fun t k => XS.iload X68.here hx rfl (hb hby at_79) rfl k) ?_
        show Go _ _ _ _ _ T68 (mkF m 81 #[.val (.int p1), .val (.long p2), .second, .val (.long p3), .second, .val (.int p4), .val (.int p5), .val (.int p6), .val (.int i1), .val (.int i2), .val (.long q10), .second, .val (.int q12), .val (.ref ka), .val (.ref kb), .unset, .unset, .unset, .unset] [(.int p4), (.long p2), (.ref ka), (.ref b68), (.ref b68)])
        refine own_callIW X68 hx hZ hS (y := (⟨"com/example/pair16/pair16/Utf16Fault", "<init>", "(Lcom/example/pair16/pair16/Utf16Fault$Kind;JI)V"⟩ : MethodName)) rfl hown (hw _ (List.mem_of_getElem? (i := 11) rfl)) (hw _ (List.mem_of_getElem? (i := 12) rfl)) (hw _ (List.mem_of_getElem? (i := 13) rfl)) (hw _ (List.mem_of_getElem? (i := 10) rfl)) (by decide) (rm_finit l Z a0 hw [] b68 ka p2 p4 h68 n0 hn68 A68 g_b68 F_kind_b68 F_offset_b68 F_value_b68 E_ka ne_ka_b68) e68 hk68 (b := b68) (by rw [hml]; rfl) (argsL := [(.ref ka), (.long p2), (.int p4)]) (rest := [(.ref b68)]) rfl rfl (lenOf own_pd4 rfl) (W := 1) (Nat.le_of_eq rfl) (by decide) (by decide) (hb hby at_81) (by decide) (by decide) ?_
        intro v69 T69 L69 X69 hS hZ hown q69
        obtain ⟨rfl, N69q, K69, Ex69, F69_kind, F69_offset, F69_value⟩ := q69
        have N69 := Fr.app N67 N69q
        replace S_LONE_LOW_SURROGATE := own_sta_keep S_LONE_LOW_SURROGATE K69 (allS ⟨_, A68⟩ all0)
        replace S_HIGH_SURROGATE_AT_END := own_sta_keep S_HIGH_SURROGATE_AT_END K69 (allS ⟨_, A68⟩ all0)
        replace S_REVERSED_BYTE_ORDER_MARK := own_sta_keep S_REVERSED_BYTE_ORDER_MARK K69 (allS ⟨_, A68⟩ all0)
        replace S_ODD_TRAILING_BYTE := own_sta_keep S_ODD_TRAILING_BYTE K69 (allS ⟨_, A68⟩ all0)
        replace S_UNPAIRED_HIGH_SURROGATE := own_sta_keep S_UNPAIRED_HIGH_SURROGATE K69 (allS ⟨_, A68⟩ all0)
        replace S_high := own_sta_keep S_high K69 (allS ⟨_, A68⟩ all0)
        replace S_cache := own_sta_keep S_cache K69 (allS ⟨_, A68⟩ all0)
        replace O_LONE_LOW_SURROGATE_ordinal := O_LONE_LOW_SURROGATE_ordinal.keep K69 (ninS ne_w_LONE_LOW_SURROGATE_b68 nin0)
        replace O_HIGH_SURROGATE_AT_END_ordinal := O_HIGH_SURROGATE_AT_END_ordinal.keep K69 (ninS ne_w_HIGH_SURROGATE_AT_END_b68 nin0)
        replace O_REVERSED_BYTE_ORDER_MARK_ordinal := O_REVERSED_BYTE_ORDER_MARK_ordinal.keep K69 (ninS ne_w_REVERSED_BYTE_ORDER_MARK_b68 nin0)
        replace O_ODD_TRAILING_BYTE_ordinal := O_ODD_TRAILING_BYTE_ordinal.keep K69 (ninS ne_w_ODD_TRAILING_BYTE_b68 nin0)
        replace O_UNPAIRED_HIGH_SURROGATE_ordinal := O_UNPAIRED_HIGH_SURROGATE_ordinal.keep K69 (ninS ne_w_UNPAIRED_HIGH_SURROGATE_b68 nin0)
        replace Ca := Ca.keep K69 (ninS ne_ca_b68 nin0)
        replace E_LONE_LOW_SURROGATE := E_LONE_LOW_SURROGATE.keep K69
        replace E_HIGH_SURROGATE_AT_END := E_HIGH_SURROGATE_AT_END.keep K69
        replace E_REVERSED_BYTE_ORDER_MARK := E_REVERSED_BYTE_ORDER_MARK.keep K69
        replace E_ODD_TRAILING_BYTE := E_ODD_TRAILING_BYTE.keep K69
        replace E_UNPAIRED_HIGH_SURROGATE := E_UNPAIRED_HIGH_SURROGATE.keep K69
        replace E_ka := E_ka.keep K69
        replace E_kb := E_kb.keep K69
        replace A68 := A68.keep K69
        have hn69 : n0 ≤ T69.heap.size := Nat.le_trans hn68 K69.1
        have hk69 := Nat.le_trans hk68 K69.1
        show Go _ _ _ _ _ T69 (mkF m 84 #[.val (.int p1), .val (.long p2), .second, .val (.long p3), .second, .val (.int p4), .val (.int p5), .val (.int p6), .val (.int i1), .val (.int i2), .val (.long q10), .second, .val (.int q12), .val (.ref ka), .val (.ref kb), .unset, .unset, .unset, .unset] [(.ref b68)])
        refine own_go (fun t k => XS.astore X69.here hx rfl (hb hby at_84) rfl rfl (l' := #[.val (.int p1), .val (.long p2), .second, .val (.long p3), .second, .val (.int p4), .val (.int p5), .val (.int p6), .val (.int i1), .val (.int i2), .val (.long q10), .second, .val (.int q12), .val (.ref ka), .val (.ref kb), .val (.ref b68), .unset, .unset, .unset]) rfl k) ?_
        show Go _ _ _ _ _ T69 (mkF m 86 #[.val (.int p1), .val (.long p2), .second, .val (.long p3), .second, .val (.int p4), .val (.int p5), .val (.int p6), .val (.int i1), .val (.int i2), .val (.long q10), .second, .val (.int q12), .val (.ref ka), .val (.ref kb), .val (.ref b68), .unset, .unset, .unset] [])
        obtain ⟨T70, h70, X70, e70, E70, A70, D70, -, st70⟩ := newO X69 hx hZ hown (hw _ (List.mem_of_getElem? (i := 8) rfl)) (hw _ (List.mem_of_getElem? (i := 9) rfl)) (hw _ (List.mem_of_getElem? (i := 10) rfl)) rfl (g := (mkF m 86 #[.val (.int p1), .val (.long p2), .second, .val (.long p3), .second, .val (.int p4), .val (.int p5), .val (.int p6), .val (.int i1), .val (.int i2), .val (.long q10), .second, .val (.int q12), .val (.ref ka), .val (.ref kb), .val (.ref b68), .unset, .unset, .unset] [])) rfl (hb hby at_86) (by decide) (by decide)
        obtain ⟨b70, g70⟩ : ∃ z, z = T69.heap.size := ⟨_, rfl⟩
        rw [← g70] at A70 D70 st70
        have ne_w_LONE_LOW_SURROGATE_b70 : ¬ w_LONE_LOW_SURROGATE = b70 := Nat.ne_of_lt (by rw [g70]; exact E_LONE_LOW_SURROGATE.lt)
        have ne_w_HIGH_SURROGATE_AT_END_b70 : ¬ w_HIGH_SURROGATE_AT_END = b70 := Nat.ne_of_lt (by rw [g70]; exact E_HIGH_SURROGATE_AT_END.lt)
        have ne_w_REVERSED_BYTE_ORDER_MARK_b70 : ¬ w_REVERSED_BYTE_ORDER_MARK = b70 := Nat.ne_of_lt (by rw [g70]; exact E_REVERSED_BYTE_ORDER_MARK.lt)
        have ne_w_ODD_TRAILING_BYTE_b70 : ¬ w_ODD_TRAILING_BYTE = b70 := Nat.ne_of_lt (by rw [g70]; exact E_ODD_TRAILING_BYTE.lt)
        have ne_w_UNPAIRED_HIGH_SURROGATE_b70 : ¬ w_UNPAIRED_HIGH_SURROGATE = b70 := Nat.ne_of_lt (by rw [g70]; exact E_UNPAIRED_HIGH_SURROGATE.lt)
        have ne_ka_b70 : ¬ ka = b70 := Nat.ne_of_lt (by rw [g70]; exact E_ka.lt)
        have ne_kb_b70 : ¬ kb = b70 := Nat.ne_of_lt (by rw [g70]; exact E_kb.lt)
        have ne_b68_b70 : ¬ b68 = b70 := Nat.ne_of_lt (by rw [g70]; exact Ex69.lt)
        have ne_ca_b70 : ¬ ca = b70 := Nat.ne_of_lt (by rw [g70]; exact Ca.lt)
        replace S_LONE_LOW_SURROGATE := S_LONE_LOW_SURROGATE.ext E70
        replace S_HIGH_SURROGATE_AT_END := S_HIGH_SURROGATE_AT_END.ext E70
        replace S_REVERSED_BYTE_ORDER_MARK := S_REVERSED_BYTE_ORDER_MARK.ext E70
        replace S_ODD_TRAILING_BYTE := S_ODD_TRAILING_BYTE.ext E70
        replace S_UNPAIRED_HIGH_SURROGATE := S_UNPAIRED_HIGH_SURROGATE.ext E70
        replace S_high := S_high.ext E70
        replace S_cache := S_cache.ext E70
        replace E_LONE_LOW_SURROGATE := E_LONE_LOW_SURROGATE.ext E70
        replace E_HIGH_SURROGATE_AT_END := E_HIGH_SURROGATE_AT_END.ext E70
        replace E_REVERSED_BYTE_ORDER_MARK := E_REVERSED_BYTE_ORDER_MARK.ext E70
        replace E_ODD_TRAILING_BYTE := E_ODD_TRAILING_BYTE.ext E70
        replace E_UNPAIRED_HIGH_SURROGATE := E_UNPAIRED_HIGH_SURROGATE.ext E70
        replace E_ka := E_ka.ext E70
        replace E_kb := E_kb.ext E70
        replace Ex69 := Ex69.ext E70
        replace O_LONE_LOW_SURROGATE_ordinal := O_LONE_LOW_SURROGATE_ordinal.ext E70
        replace O_HIGH_SURROGATE_AT_END_ordinal := O_HIGH_SURROGATE_AT_END_ordinal.ext E70
        replace O_REVERSED_BYTE_ORDER_MARK_ordinal := O_REVERSED_BYTE_ORDER_MARK_ordinal.ext E70
        replace O_ODD_TRAILING_BYTE_ordinal := O_ODD_TRAILING_BYTE_ordinal.ext E70
        replace O_UNPAIRED_HIGH_SURROGATE_ordinal := O_UNPAIRED_HIGH_SURROGATE_ordinal.ext E70
        replace F69_kind := F69_kind.ext E70
        replace F69_offset := F69_offset.ext E70
        replace F69_value := F69_value.ext E70
        replace Ca := Ca.ext E70
        have g_b70 : n0 ≤ b70 := by rw [g70]; exact hn69
        have hn70 : n0 ≤ h70.size := Nat.le_trans hn69 E70.1
        have hk70 := Nat.le_trans (Nat.le_refl _) E70.1
        have F_kind_b70 : Fld Z h70 b70 "com/example/pair16/pair16/Utf16Fault" "kind" "Lcom/example/pair16/pair16/Utf16Fault$Kind;" .null := D70 (Or.inr (hw _ (List.mem_of_getElem? (i := 32) rfl))) (ty := (.object "com/example/pair16/pair16/Utf16Fault$Kind")) (by decide)
        have F_offset_b70 : Fld Z h70 b70 "com/example/pair16/pair16/Utf16Fault" "offset" "J" (.long (0 : Int64)) := D70 (Or.inr (hw _ (List.mem_of_getElem? (i := 34) rfl))) (ty := .long) (by decide)
        have F_value_b70 : Fld Z h70 b70 "com/example/pair16/pair16/Utf16Fault" "value" "I" (.int (0 : Int32)) := D70 (Or.inr (hw _ (List.mem_of_getElem? (i := 36) rfl))) (ty := .int) (by decide)
        refine own_go (fun t k => st70 t k) ?_
        show Go _ _ _ _ _ T70 (mkF m 89 #[.val (.int p1), .val (.long p2), .second, .val (.long p3), .second, .val (.int p4), .val (.int p5), .val (.int p6), .val (.int i1), .val (.int i2), .val (.long q10), .second, .val (.int q12), .val (.ref ka), .val (.ref kb), .val (.ref b68), .unset, .unset, .unset] [(.ref b70)])
        refine own_go (fun t k => XS.dup X70.here hx rfl (hb hby at_89) rfl rfl k) ?_
        show Go _ _ _ _ _ T70 (mkF m 90 #[.val (.int p1), .val (.long p2), .second, .val (.long p3), .second, .val (.int p4), .val (.int p5), .val (.int p6), .val (.int i1), .val (.int i2), .val (.long q10), .second, .val (.int q12), .val (.ref ka), .val (.ref kb), .val (.ref b68), .unset, .unset, .unset] [(.ref b70), (.ref b70)])
        refine own_go (fun t k => XS.aload X70.here hx rfl (hb hby at_90) rfl rfl k) ?_
        show Go _ _ _ _ _ T70 (mkF m 92 #[.val (.int p1), .val (.long p2), .second, .val (.long p3), .second, .val (.int p4), .val (.int p5), .val (.int p6), .val (.int i1), .val (.int i2), .val (.long q10), .second, .val (.int q12), .val (.ref ka), .val (.ref kb), .val (.ref b68), .unset, .unset, .unset] [(.ref kb), (.ref b70), (.ref b70)])
        refine own_go (fun t k => XS.lload X70.here hx rfl (hb hby at_92) rfl k) ?_
        show Go _ _ _ _ _ T70 (mkF m 94 #[.val (.int p1), .val (.long p2), .second, .val (.long p3), .second, .val (.int p4), .val (.int p5), .val (.int p6), .val (.int i1), .val (.int i2), .val (.long q10), .second, .val (.int q12), .val (.ref ka), .val (.ref kb), .val (.ref b68), .unset, .unset, .unset] [(.long q10), (.ref kb), (.ref b70), (.ref b70)])
        refine own_go (fun t k => XS.iload X70.here hx rfl (hb hby at_94) rfl k) ?_
        show Go _ _ _ _ _ T70 (mkF m 96 #[.val (.int p1), .val (.long p2), .second, .val (.long p3), .second, .val (.int p4), .val (.int p5), .val (.int p6), .val (.int i1), .val (.int i2), .val (.long q10), .second, .val (.int q12), .val (.ref ka), .val (.ref kb), .val (.ref b68), .unset, .unset, .unset] [(.int q12), (.long q10), (.ref kb), (.ref b70), (.ref b70)])
        refine own_callIW X70 hx hZ hS (y := (⟨"com/example/pair16/pair16/Utf16Fault", "<init>", "(Lcom/example/pair16/pair16/Utf16Fault$Kind;JI)V"⟩ : MethodName)) rfl hown (hw _ (List.mem_of_getElem? (i := 11) rfl)) (hw _ (List.mem_of_getElem? (i := 12) rfl)) (hw _ (List.mem_of_getElem? (i := 13) rfl)) (hw _ (List.mem_of_getElem? (i := 10) rfl)) (by decide) (rm_finit l Z a0 hw [] b70 kb q10 q12 h70 n0 hn70 A70 g_b70 F_kind_b70 F_offset_b70 F_value_b70 E_kb ne_kb_b70) e70 hk70 (b := b70) (by rw [hml]; rfl) (argsL := [(.ref kb), (.long q10), (.int q12)]) (rest := [(.ref b70)]) rfl rfl (lenOf own_pd4 rfl) (W := 1) (Nat.le_of_eq rfl) (by decide) (by decide) (hb hby at_96) (by decide) (by decide) ?_
        intro v71 T71 L71 X71 hS hZ hown q71
        obtain ⟨rfl, N71q, K71, Ex71, F71_kind, F71_offset, F71_value⟩ := q71
        have N71 := Fr.app N69 N71q
        replace S_LONE_LOW_SURROGATE := own_sta_keep S_LONE_LOW_SURROGATE K71 (allS ⟨_, A70⟩ all0)
        replace S_HIGH_SURROGATE_AT_END := own_sta_keep S_HIGH_SURROGATE_AT_END K71 (allS ⟨_, A70⟩ all0)
        replace S_REVERSED_BYTE_ORDER_MARK := own_sta_keep S_REVERSED_BYTE_ORDER_MARK K71 (allS ⟨_, A70⟩ all0)
        replace S_ODD_TRAILING_BYTE := own_sta_keep S_ODD_TRAILING_BYTE K71 (allS ⟨_, A70⟩ all0)
        replace S_UNPAIRED_HIGH_SURROGATE := own_sta_keep S_UNPAIRED_HIGH_SURROGATE K71 (allS ⟨_, A70⟩ all0)
        replace S_high := own_sta_keep S_high K71 (allS ⟨_, A70⟩ all0)
        replace S_cache := own_sta_keep S_cache K71 (allS ⟨_, A70⟩ all0)
        replace O_LONE_LOW_SURROGATE_ordinal := O_LONE_LOW_SURROGATE_ordinal.keep K71 (ninS ne_w_LONE_LOW_SURROGATE_b70 nin0)
        replace O_HIGH_SURROGATE_AT_END_ordinal := O_HIGH_SURROGATE_AT_END_ordinal.keep K71 (ninS ne_w_HIGH_SURROGATE_AT_END_b70 nin0)
        replace O_REVERSED_BYTE_ORDER_MARK_ordinal := O_REVERSED_BYTE_ORDER_MARK_ordinal.keep K71 (ninS ne_w_REVERSED_BYTE_ORDER_MARK_b70 nin0)
        replace O_ODD_TRAILING_BYTE_ordinal := O_ODD_TRAILING_BYTE_ordinal.keep K71 (ninS ne_w_ODD_TRAILING_BYTE_b70 nin0)
        replace O_UNPAIRED_HIGH_SURROGATE_ordinal := O_UNPAIRED_HIGH_SURROGATE_ordinal.keep K71 (ninS ne_w_UNPAIRED_HIGH_SURROGATE_b70 nin0)
        replace F69_kind := F69_kind.keep K71 (ninS ne_b68_b70 nin0)
        replace F69_offset := F69_offset.keep K71 (ninS ne_b68_b70 nin0)
        replace F69_value := F69_value.keep K71 (ninS ne_b68_b70 nin0)
        replace Ca := Ca.keep K71 (ninS ne_ca_b70 nin0)
        replace E_LONE_LOW_SURROGATE := E_LONE_LOW_SURROGATE.keep K71
        replace E_HIGH_SURROGATE_AT_END := E_HIGH_SURROGATE_AT_END.keep K71
        replace E_REVERSED_BYTE_ORDER_MARK := E_REVERSED_BYTE_ORDER_MARK.keep K71
        replace E_ODD_TRAILING_BYTE := E_ODD_TRAILING_BYTE.keep K71
        replace E_UNPAIRED_HIGH_SURROGATE := E_UNPAIRED_HIGH_SURROGATE.keep K71
        replace E_ka := E_ka.keep K71
        replace E_kb := E_kb.keep K71
        replace Ex69 := Ex69.keep K71
        replace A70 := A70.keep K71
        have hn71 : n0 ≤ T71.heap.size := Nat.le_trans hn70 K71.1
        have hk71 := Nat.le_trans hk70 K71.1
        show Go _ _ _ _ _ T71 (mkF m 99 #[.val (.int p1), .val (.long p2), .second, .val (.long p3), .second, .val (.int p4), .val (.int p5), .val (.int p6), .val (.int i1), .val (.int i2), .val (.long q10), .second, .val (.int q12), .val (.ref ka), .val (.ref kb), .val (.ref b68), .unset, .unset, .unset] [(.ref b70)])
        refine own_go (fun t k => XS.astore X71.here hx rfl (hb hby at_99) rfl rfl (l' := #[.val (.int p1), .val (.long p2), .second, .val (.long p3), .second, .val (.int p4), .val (.int p5), .val (.int p6), .val (.int i1), .val (.int i2), .val (.long q10), .second, .val (.int q12), .val (.ref ka), .val (.ref kb), .val (.ref b68), .val (.ref b70), .unset, .unset]) rfl k) ?_
        show Go _ _ _ _ _ T71 (mkF m 101 #[.val (.int p1), .val (.long p2), .second, .val (.long p3), .second, .val (.int p4), .val (.int p5), .val (.int p6), .val (.int i1), .val (.int i2), .val (.long q10), .second, .val (.int q12), .val (.ref ka), .val (.ref kb), .val (.ref b68), .val (.ref b70), .unset, .unset] [])
        refine own_go (fun t k => XS.iload X71.here hx rfl (hb hby at_101) rfl k) ?_
        show Go _ _ _ _ _ T71 (mkF m 103 #[.val (.int p1), .val (.long p2), .second, .val (.long p3), .second, .val (.int p4), .val (.int p5), .val (.int p6), .val (.int i1), .val (.int i2), .val (.long q10), .second, .val (.int q12), .val (.ref ka), .val (.ref kb), .val (.ref b68), .val (.ref b70), .unset, .unset] [(.int p4)])
        refine own_callS X71 hx hZ (y := (⟨"java/lang/Integer", "valueOf", "(I)Ljava/lang/Integer;"⟩ : MethodName)) hown (hw _ (List.mem_of_getElem? (i := 37) rfl)) (hw _ (List.mem_of_getElem? (i := 38) rfl)) (hw _ (List.mem_of_getElem? (i := 39) rfl)) (hw _ (List.mem_of_getElem? (i := 40) rfl)) (by decide) (rm5 l Z a0 hw [] p4 ca T71.heap n0 hn71 S_high S_cache Ca) rfl (by rw [hml]; rfl) (argsL := [(.int p4)]) (rest := []) rfl rfl (lenOf own_pd5 rfl) (W := 0) (Nat.le_of_eq rfl) (by decide) (by decide) (hb hby at_103) (by decide) (by decide) ?_
        intro v72 T72 L72 X72 q72
        obtain ⟨b72, rfl, N72q, K72, Ex72⟩ := q72
        have N72 := Fr.app N71 N72q
        replace S_LONE_LOW_SURROGATE := own_sta_keep S_LONE_LOW_SURROGATE K72 all0
        replace S_HIGH_SURROGATE_AT_END := own_sta_keep S_HIGH_SURROGATE_AT_END K72 all0
        replace S_REVERSED_BYTE_ORDER_MARK := own_sta_keep S_REVERSED_BYTE_ORDER_MARK K72 all0
        replace S_ODD_TRAILING_BYTE := own_sta_keep S_ODD_TRAILING_BYTE K72 all0
        replace S_UNPAIRED_HIGH_SURROGATE := own_sta_keep S_UNPAIRED_HIGH_SURROGATE K72 all0
        replace S_high := own_sta_keep S_high K72 all0
        replace S_cache := own_sta_keep S_cache K72 all0
        replace O_LONE_LOW_SURROGATE_ordinal := O_LONE_LOW_SURROGATE_ordinal.keep K72 nin0
        replace O_HIGH_SURROGATE_AT_END_ordinal := O_HIGH_SURROGATE_AT_END_ordinal.keep K72 nin0
        replace O_REVERSED_BYTE_ORDER_MARK_ordinal := O_REVERSED_BYTE_ORDER_MARK_ordinal.keep K72 nin0
        replace O_ODD_TRAILING_BYTE_ordinal := O_ODD_TRAILING_BYTE_ordinal.keep K72 nin0
        replace O_UNPAIRED_HIGH_SURROGATE_ordinal := O_UNPAIRED_HIGH_SURROGATE_ordinal.keep K72 nin0
        replace F69_kind := F69_kind.keep K72 nin0
        replace F69_offset := F69_offset.keep K72 nin0
        replace F69_value := F69_value.keep K72 nin0
        replace F71_kind := F71_kind.keep K72 nin0
        replace F71_offset := F71_offset.keep K72 nin0
        replace F71_value := F71_value.keep K72 nin0
        replace Ca := Ca.keep K72 nin0
        replace E_LONE_LOW_SURROGATE := E_LONE_LOW_SURROGATE.keep K72
        replace E_HIGH_SURROGATE_AT_END := E_HIGH_SURROGATE_AT_END.keep K72
        replace E_REVERSED_BYTE_ORDER_MARK := E_REVERSED_BYTE_ORDER_MARK.keep K72
        replace E_ODD_TRAILING_BYTE := E_ODD_TRAILING_BYTE.keep K72
        replace E_UNPAIRED_HIGH_SURROGATE := E_UNPAIRED_HIGH_SURROGATE.keep K72
        replace E_ka := E_ka.keep K72
        replace E_kb := E_kb.keep K72
        replace Ex69 := Ex69.keep K72
        replace Ex71 := Ex71.keep K72
        have hn72 : n0 ≤ T72.heap.size := Nat.le_trans hn71 K72.1
        have hk72 := Nat.le_trans (Nat.le_refl _) K72.1
        show Go _ _ _ _ _ T72 (mkF m 106 #[.val (.int p1), .val (.long p2), .second, .val (.long p3), .second, .val (.int p4), .val (.int p5), .val (.int p6), .val (.int i1), .val (.int i2), .val (.long q10), .second, .val (.int q12), .val (.ref ka), .val (.ref kb), .val (.ref b68), .val (.ref b70), .unset, .unset] [(.ref b72)])
        refine own_go (fun t k => XS.astore X72.here hx rfl (hb hby at_106) rfl rfl (l' := #[.val (.int p1), .val (.long p2), .second, .val (.long p3), .second, .val (.int p4), .val (.int p5), .val (.int p6), .val (.int i1), .val (.int i2), .val (.long q10), .second, .val (.int q12), .val (.ref ka), .val (.ref kb), .val (.ref b68), .val (.ref b70), .val (.ref b72), .unset]) rfl k) ?_
        show Go _ _ _ _ _ T72 (mkF m 108 #[.val (.int p1), .val (.long p2), .second, .val (.long p3), .second, .val (.int p4), .val (.int p5), .val (.int p6), .val (.int i1), .val (.int i2), .val (.long q10), .second, .val (.int q12), .val (.ref ka), .val (.ref kb), .val (.ref b68), .val (.ref b70), .val (.ref b72), .unset] [])
        refine own_go (fun t k => XS.iload X72.here hx rfl (hb hby at_108) rfl k) ?_
        show Go _ _ _ _ _ T72 (mkF m 110 #[.val (.int p1), .val (.long p2), .second, .val (.long p3), .second, .val (.int p4), .val (.int p5), .val (.int p6), .val (.int i1), .val (.int i2), .val (.long q10), .second, .val (.int q12), .val (.ref ka), .val (.ref kb), .val (.ref b68), .val (.ref b70), .val (.ref b72), .unset] [(.int i1)])
        refine own_go (fun t k => XS.iload X72.here hx rfl (hb hby at_110) rfl k) ?_
        show Go _ _ _ _ _ T72 (mkF m 112 #[.val (.int p1), .val (.long p2), .second, .val (.long p3), .second, .val (.int p4), .val (.int p5), .val (.int p6), .val (.int i1), .val (.int i2), .val (.long q10), .second, .val (.int q12), .val (.ref ka), .val (.ref kb), .val (.ref b68), .val (.ref b70), .val (.ref b72), .unset] [(.int i2), (.int i1)])
        refine own_icmpM (i1 = i2) X72 hx (hb hby at_112) (own_ne _ _) (by decide) (by decide) (pc' := 133) (fun hc73 => ?_) (fun hc73 => ?_)
        · skip
          show Go _ _ _ _ _ T72 (mkF m 133 #[.val (.int p1), .val (.long p2), .second, .val (.long p3), .second, .val (.int p4), .val (.int p5), .val (.int p6), .val (.int i1), .val (.int i2), .val (.long q10), .second, .val (.int q12), .val (.ref ka), .val (.ref kb), .val (.ref b68), .val (.ref b70), .val (.ref b72), .unset] [])
          refine own_go (fun t k => XS.iconst X72.here hx rfl (hb hby at_133) k) ?_
          show Go _ _ _ _ _ T72 (mkF m 134 #[.val (.int p1), .val (.long p2), .second, .val (.long p3), .second, .val (.int p4), .val (.int p5), .val (.int p6), .val (.int i1), .val (.int i2), .val (.long q10), .second, .val (.int q12), .val (.ref ka), .val (.ref kb), .val (.ref b68), .val (.ref b70), .val (.ref b72), .unset] [(.int (0 : Int32))])
          refine own_go (fun t k => XS.istore X72.here hx rfl (hb hby at_134) rfl (l' := #[.val (.int p1), .val (.long p2), .second, .val (.long p3), .second, .val (.int p4), .val (.int p5), .val (.int p6), .val (.int i1), .val (.int i2), .val (.long q10), .second, .val (.int q12), .val (.ref ka), .val (.ref kb), .val (.ref b68), .val (.ref b70), .val (.ref b72), .val (.int (0 : Int32))]) rfl k) ?_
          have hkk : ¬ ka = kb := own_kind_inj i1 i2 w_LONE_LOW_SURROGATE w_HIGH_SURROGATE_AT_END w_REVERSED_BYTE_ORDER_MARK w_ODD_TRAILING_BYTE w_UNPAIRED_HIGH_SURROGATE D_w_LONE_LOW_SURROGATE_w_HIGH_SURROGATE_AT_END D_w_LONE_LOW_SURROGATE_w_REVERSED_BYTE_ORDER_MARK D_w_LONE_LOW_SURROGATE_w_ODD_TRAILING_BYTE D_w_LONE_LOW_SURROGATE_w_UNPAIRED_HIGH_SURROGATE D_w_HIGH_SURROGATE_AT_END_w_REVERSED_BYTE_ORDER_MARK D_w_HIGH_SURROGATE_AT_END_w_ODD_TRAILING_BYTE D_w_HIGH_SURROGATE_AT_END_w_UNPAIRED_HIGH_SURROGATE D_w_REVERSED_BYTE_ORDER_MARK_w_ODD_TRAILING_BYTE D_w_REVERSED_BYTE_ORDER_MARK_w_UNPAIRED_HIGH_SURROGATE D_w_ODD_TRAILING_BYTE_w_UNPAIRED_HIGH_SURROGATE h1 h_i2 hka hkb hc73
          have hself : (lcmpW p2 p2) = (0 : Int32) := (lw_eq p2 p2).mpr rfl
          show Go _ _ _ _ _ T72 (mkF m 136 #[.val (.int p1), .val (.long p2), .second, .val (.long p3), .second, .val (.int p4), .val (.int p5), .val (.int p6), .val (.int i1), .val (.int i2), .val (.long q10), .second, .val (.int q12), .val (.ref ka), .val (.ref kb), .val (.ref b68), .val (.ref b70), .val (.ref b72), .val (.int (0 : Int32))] [])
          refine own_go (fun t k => XS.aload X72.here hx rfl (hb hby at_136) rfl rfl k) ?_
          show Go _ _ _ _ _ T72 (mkF m 138 #[.val (.int p1), .val (.long p2), .second, .val (.long p3), .second, .val (.int p4), .val (.int p5), .val (.int p6), .val (.int i1), .val (.int i2), .val (.long q10), .second, .val (.int q12), .val (.ref ka), .val (.ref kb), .val (.ref b68), .val (.ref b70), .val (.ref b72), .val (.int (0 : Int32))] [(.ref b68)])
          refine own_go (fun t k => XS.aload X72.here hx rfl (hb hby at_138) rfl rfl k) ?_
          show Go _ _ _ _ _ T72 (mkF m 140 #[.val (.int p1), .val (.long p2), .second, .val (.long p3), .second, .val (.int p4), .val (.int p5), .val (.int p6), .val (.int i1), .val (.int i2), .val (.long q10), .second, .val (.int q12), .val (.ref ka), .val (.ref kb), .val (.ref b68), .val (.ref b70), .val (.ref b72), .val (.int (0 : Int32))] [(.ref b70), (.ref b68)])
          refine own_callV X72 hx hZ (y := (⟨"com/example/pair16/pair16/Utf16Fault", "equals", "(Ljava/lang/Object;)Z"⟩ : MethodName)) hown (hw _ (List.mem_of_getElem? (i := 44) rfl)) (hw _ (List.mem_of_getElem? (i := 45) rfl)) (hw _ (List.mem_of_getElem? (i := 47) rfl)) (hw _ (List.mem_of_getElem? (i := 46) rfl)) (hw _ (List.mem_of_getElem? (i := 48) rfl)) (hw _ (List.mem_of_getElem? (i := 10) rfl)) (by decide) (rm_eq_same l Z a0 hw [] b68 b70 ka p2 p4 kb q10 q12 (0 : Int32) T72.heap n0 hn72 Ex71 F69_kind F69_offset F69_value F71_kind F71_offset F71_value (by rw [own_f_rm_eq_same, if_neg hkk]; try first | rfl | decide)) rfl Ex69 (by rw [hml]; rfl) (argsL := [(.ref b70)]) (rest := []) rfl rfl (lenOf own_pd6 rfl) (W := 0) (Nat.le_of_eq rfl) (by decide) (by decide) (hb hby at_140) (by decide) (by decide) ?_
          intro v74 T74 L74 X74 q74
          obtain ⟨rfl, N74q, e74⟩ := q74
          have N74 := Fr.app N72 N74q
          show Go _ _ _ _ _ T74 (mkF m 143 #[.val (.int p1), .val (.long p2), .second, .val (.long p3), .second, .val (.int p4), .val (.int p5), .val (.int p6), .val (.int i1), .val (.int i2), .val (.long q10), .second, .val (.int q12), .val (.ref ka), .val (.ref kb), .val (.ref b68), .val (.ref b70), .val (.ref b72), .val (.int (0 : Int32))] [(.int (0 : Int32))])
          refine own_go (fun t k => XS.iload X74.here hx rfl (hb hby at_143) rfl k) ?_
          show Go _ _ _ _ _ T74 (mkF m 145 #[.val (.int p1), .val (.long p2), .second, .val (.long p3), .second, .val (.int p4), .val (.int p5), .val (.int p6), .val (.int i1), .val (.int i2), .val (.long q10), .second, .val (.int q12), .val (.ref ka), .val (.ref kb), .val (.ref b68), .val (.ref b70), .val (.ref b72), .val (.int (0 : Int32))] [(.int (0 : Int32)), (.int (0 : Int32))])
          refine own_go (fun t k => XS.icmpNo X74.here hx rfl (hb hby at_145) rfl (by decide) k) ?_
          show Go _ _ _ _ _ T74 (mkF m 148 #[.val (.int p1), .val (.long p2), .second, .val (.long p3), .second, .val (.int p4), .val (.int p5), .val (.int p6), .val (.int i1), .val (.int i2), .val (.long q10), .second, .val (.int q12), .val (.ref ka), .val (.ref kb), .val (.ref b68), .val (.ref b70), .val (.ref b72), .val (.int (0 : Int32))] [])
          refine own_go (fun t k => XS.aload X74.here hx rfl (hb hby at_148) rfl rfl k) ?_
          show Go _ _ _ _ _ T74 (mkF m 150 #[.val (.int p1), .val (.long p2), .second, .val (.long p3), .second, .val (.int p4), .val (.int p5), .val (.int p6), .val (.int i1), .val (.int i2), .val (.long q10), .second, .val (.int q12), .val (.ref ka), .val (.ref kb), .val (.ref b68), .val (.ref b70), .val (.ref b72), .val (.int (0 : Int32))] [(.ref b70)])
          refine own_go (fun t k => XS.aload X74.here hx rfl (hb hby at_150) rfl rfl k) ?_
          show Go _ _ _ _ _ T74 (mkF m 152 #[.val (.int p1), .val (.long p2), .second, .val (.long p3), .second, .val (.int p4), .val (.int p5), .val (.int p6), .val (.int i1), .val (.int i2), .val (.long q10), .second, .val (.int q12), .val (.ref ka), .val (.ref kb), .val (.ref b68), .val (.ref b70), .val (.ref b72), .val (.int (0 : Int32))] [(.ref b68), (.ref b70)])
          refine own_callV X74 hx hZ (y := (⟨"com/example/pair16/pair16/Utf16Fault", "equals", "(Ljava/lang/Object;)Z"⟩ : MethodName)) hown (hw _ (List.mem_of_getElem? (i := 44) rfl)) (hw _ (List.mem_of_getElem? (i := 45) rfl)) (hw _ (List.mem_of_getElem? (i := 47) rfl)) (hw _ (List.mem_of_getElem? (i := 46) rfl)) (hw _ (List.mem_of_getElem? (i := 48) rfl)) (hw _ (List.mem_of_getElem? (i := 10) rfl)) (by decide) (rm_eq_same l Z a0 hw [] b70 b68 kb q10 q12 ka p2 p4 (0 : Int32) T72.heap n0 hn72 Ex69 F71_kind F71_offset F71_value F69_kind F69_offset F69_value (by rw [own_f_rm_eq_same, if_neg (fun q => hkk q.symm)]; try first | rfl | decide)) e74 Ex71 (by rw [hml]; rfl) (argsL := [(.ref b68)]) (rest := []) rfl rfl (lenOf own_pd6 rfl) (W := 0) (Nat.le_of_eq rfl) (by decide) (by decide) (hb hby at_152) (by decide) (by decide) ?_
          intro v75 T75 L75 X75 q75
          obtain ⟨rfl, N75q, e75⟩ := q75
          have N75 := Fr.app N74 N75q
          show Go _ _ _ _ _ T75 (mkF m 155 #[.val (.int p1), .val (.long p2), .second, .val (.long p3), .second, .val (.int p4), .val (.int p5), .val (.int p6), .val (.int i1), .val (.int i2), .val (.long q10), .second, .val (.int q12), .val (.ref ka), .val (.ref kb), .val (.ref b68), .val (.ref b70), .val (.ref b72), .val (.int (0 : Int32))] [(.int (0 : Int32))])
          refine own_go (fun t k => XS.iload X75.here hx rfl (hb hby at_155) rfl k) ?_
          show Go _ _ _ _ _ T75 (mkF m 157 #[.val (.int p1), .val (.long p2), .second, .val (.long p3), .second, .val (.int p4), .val (.int p5), .val (.int p6), .val (.int i1), .val (.int i2), .val (.long q10), .second, .val (.int q12), .val (.ref ka), .val (.ref kb), .val (.ref b68), .val (.ref b70), .val (.ref b72), .val (.int (0 : Int32))] [(.int (0 : Int32)), (.int (0 : Int32))])
          refine own_go (fun t k => XS.icmpNo X75.here hx rfl (hb hby at_157) rfl (by decide) k) ?_
          show Go _ _ _ _ _ T75 (mkF m 160 #[.val (.int p1), .val (.long p2), .second, .val (.long p3), .second, .val (.int p4), .val (.int p5), .val (.int p6), .val (.int i1), .val (.int i2), .val (.long q10), .second, .val (.int q12), .val (.ref ka), .val (.ref kb), .val (.ref b68), .val (.ref b70), .val (.ref b72), .val (.int (0 : Int32))] [])
          refine own_go (fun t k => XS.aload X75.here hx rfl (hb hby at_160) rfl rfl k) ?_
          show Go _ _ _ _ _ T75 (mkF m 162 #[.val (.int p1), .val (.long p2), .second, .val (.long p3), .second, .val (.int p4), .val (.int p5), .val (.int p6), .val (.int i1), .val (.int i2), .val (.long q10), .second, .val (.int q12), .val (.ref ka), .val (.ref kb), .val (.ref b68), .val (.ref b70), .val (.ref b72), .val (.int (0 : Int32))] [(.ref b68)])
          refine own_go (fun t k => XS.aload X75.here hx rfl (hb hby at_162) rfl rfl k) ?_
          show Go _ _ _ _ _ T75 (mkF m 164 #[.val (.int p1), .val (.long p2), .second, .val (.long p3), .second, .val (.int p4), .val (.int p5), .val (.int p6), .val (.int i1), .val (.int i2), .val (.long q10), .second, .val (.int q12), .val (.ref ka), .val (.ref kb), .val (.ref b68), .val (.ref b70), .val (.ref b72), .val (.int (0 : Int32))] [(.ref b68), (.ref b68)])
          refine own_callV X75 hx hZ (y := (⟨"com/example/pair16/pair16/Utf16Fault", "equals", "(Ljava/lang/Object;)Z"⟩ : MethodName)) hown (hw _ (List.mem_of_getElem? (i := 44) rfl)) (hw _ (List.mem_of_getElem? (i := 45) rfl)) (hw _ (List.mem_of_getElem? (i := 47) rfl)) (hw _ (List.mem_of_getElem? (i := 46) rfl)) (hw _ (List.mem_of_getElem? (i := 48) rfl)) (hw _ (List.mem_of_getElem? (i := 10) rfl)) (by decide) (rm_eq_same l Z a0 hw [] b68 b68 ka p2 p4 ka p2 p4 (1 : Int32) T72.heap n0 hn72 Ex69 F69_kind F69_offset F69_value F69_kind F69_offset F69_value (by rw [own_f_rm_eq_same, if_pos (show ka = ka from rfl), if_pos hself, if_pos (show p4 = p4 from rfl)]; try first | rfl | decide)) e75 Ex69 (by rw [hml]; rfl) (argsL := [(.ref b68)]) (rest := []) rfl rfl (lenOf own_pd6 rfl) (W := 0) (Nat.le_of_eq rfl) (by decide) (by decide) (hb hby at_164) (by decide) (by decide) ?_
          intro v76 T76 L76 X76 q76
          obtain ⟨rfl, N76q, e76⟩ := q76
          have N76 := Fr.app N75 N76q
          show Go _ _ _ _ _ T76 (mkF m 167 #[.val (.int p1), .val (.long p2), .second, .val (.long p3), .second, .val (.int p4), .val (.int p5), .val (.int p6), .val (.int i1), .val (.int i2), .val (.long q10), .second, .val (.int q12), .val (.ref ka), .val (.ref kb), .val (.ref b68), .val (.ref b70), .val (.ref b72), .val (.int (0 : Int32))] [(.int (1 : Int32))])
          refine own_go (fun t k => XS.ifNo X76.here hx rfl (hb hby at_167) rfl (by decide) k) ?_
          show Go _ _ _ _ _ T76 (mkF m 170 #[.val (.int p1), .val (.long p2), .second, .val (.long p3), .second, .val (.int p4), .val (.int p5), .val (.int p6), .val (.int i1), .val (.int i2), .val (.long q10), .second, .val (.int q12), .val (.ref ka), .val (.ref kb), .val (.ref b68), .val (.ref b70), .val (.ref b72), .val (.int (0 : Int32))] [])
          refine own_go (fun t k => XS.aload X76.here hx rfl (hb hby at_170) rfl rfl k) ?_
          show Go _ _ _ _ _ T76 (mkF m 172 #[.val (.int p1), .val (.long p2), .second, .val (.long p3), .second, .val (.int p4), .val (.int p5), .val (.int p6), .val (.int i1), .val (.int i2), .val (.long q10), .second, .val (.int q12), .val (.ref ka), .val (.ref kb), .val (.ref b68), .val (.ref b70), .val (.ref b72), .val (.int (0 : Int32))] [(.ref b68)])
          refine own_go (fun t k => XS.aconstNull X76.here hx rfl (hb hby at_172) k) ?_
          show Go _ _ _ _ _ T76 (mkF m 173 #[.val (.int p1), .val (.long p2), .second, .val (.long p3), .second, .val (.int p4), .val (.int p5), .val (.int p6), .val (.int i1), .val (.int i2), .val (.long q10), .second, .val (.int q12), .val (.ref ka), .val (.ref kb), .val (.ref b68), .val (.ref b70), .val (.ref b72), .val (.int (0 : Int32))] [.null, (.ref b68)])
          refine own_callV X76 hx hZ (y := (⟨"com/example/pair16/pair16/Utf16Fault", "equals", "(Ljava/lang/Object;)Z"⟩ : MethodName)) hown (hw _ (List.mem_of_getElem? (i := 44) rfl)) (hw _ (List.mem_of_getElem? (i := 45) rfl)) (hw _ (List.mem_of_getElem? (i := 47) rfl)) (hw _ (List.mem_of_getElem? (i := 46) rfl)) (hw _ (List.mem_of_getElem? (i := 48) rfl)) (hw _ (List.mem_of_getElem? (i := 10) rfl)) (by decide) (rm_eq_null l Z a0 hw [] b68 (0 : Int32) T72.heap n0 hn72  (by rw [own_f_rm_eq_null]; try first | rfl | decide)) e76 Ex69 (by rw [hml]; rfl) (argsL := [.null]) (rest := []) rfl rfl (lenOf own_pd6 rfl) (W := 0) (Nat.le_of_eq rfl) (by decide) (by decide) (hb hby at_173) (by decide) (by decide) ?_
          intro v77 T77 L77 X77 q77
          obtain ⟨rfl, N77q, e77⟩ := q77
          have N77 := Fr.app N76 N77q
          show Go _ _ _ _ _ T77 (mkF m 176 #[.val (.int p1), .val (.long p2), .second, .val (.long p3), .second, .val (.int p4), .val (.int p5), .val (.int p6), .val (.int i1), .val (.int i2), .val (.long q10), .second, .val (.int q12), .val (.ref ka), .val (.ref kb), .val (.ref b68), .val (.ref b70), .val (.ref b72), .val (.int (0 : Int32))] [(.int (0 : Int32))])
          refine own_go (fun t k => XS.ifNo X77.here hx rfl (hb hby at_176) rfl (by decide) k) ?_
          show Go _ _ _ _ _ T77 (mkF m 179 #[.val (.int p1), .val (.long p2), .second, .val (.long p3), .second, .val (.int p4), .val (.int p5), .val (.int p6), .val (.int i1), .val (.int i2), .val (.long q10), .second, .val (.int q12), .val (.ref ka), .val (.ref kb), .val (.ref b68), .val (.ref b70), .val (.ref b72), .val (.int (0 : Int32))] [])
          refine own_go (fun t k => XS.aload X77.here hx rfl (hb hby at_179) rfl rfl k) ?_
          show Go _ _ _ _ _ T77 (mkF m 181 #[.val (.int p1), .val (.long p2), .second, .val (.long p3), .second, .val (.int p4), .val (.int p5), .val (.int p6), .val (.int i1), .val (.int i2), .val (.long q10), .second, .val (.int q12), .val (.ref ka), .val (.ref kb), .val (.ref b68), .val (.ref b70), .val (.ref b72), .val (.int (0 : Int32))] [(.ref b68)])
          refine own_go (fun t k => XS.aload X77.here hx rfl (hb hby at_181) rfl rfl k) ?_
          show Go _ _ _ _ _ T77 (mkF m 183 #[.val (.int p1), .val (.long p2), .second, .val (.long p3), .second, .val (.int p4), .val (.int p5), .val (.int p6), .val (.int i1), .val (.int i2), .val (.long q10), .second, .val (.int q12), .val (.ref ka), .val (.ref kb), .val (.ref b68), .val (.ref b70), .val (.ref b72), .val (.int (0 : Int32))] [(.ref b72), (.ref b68)])
          refine own_callV X77 hx hZ (y := (⟨"com/example/pair16/pair16/Utf16Fault", "equals", "(Ljava/lang/Object;)Z"⟩ : MethodName)) hown (hw _ (List.mem_of_getElem? (i := 44) rfl)) (hw _ (List.mem_of_getElem? (i := 45) rfl)) (hw _ (List.mem_of_getElem? (i := 47) rfl)) (hw _ (List.mem_of_getElem? (i := 46) rfl)) (hw _ (List.mem_of_getElem? (i := 48) rfl)) (hw _ (List.mem_of_getElem? (i := 10) rfl)) (by decide) (rm_eq_other l Z a0 hw [] b68 b72 (0 : Int32) T72.heap n0 hn72 Ex72 (by rw [own_f_rm_eq_other]; try first | rfl | decide)) e77 Ex69 (by rw [hml]; rfl) (argsL := [(.ref b72)]) (rest := []) rfl rfl (lenOf own_pd6 rfl) (W := 0) (Nat.le_of_eq rfl) (by decide) (by decide) (hb hby at_183) (by decide) (by decide) ?_
          intro v78 T78 L78 X78 q78
          obtain ⟨rfl, N78q, e78⟩ := q78
          have N78 := Fr.app N77 N78q
          show Go _ _ _ _ _ T78 (mkF m 186 #[.val (.int p1), .val (.long p2), .second, .val (.long p3), .second, .val (.int p4), .val (.int p5), .val (.int p6), .val (.int i1), .val (.int i2), .val (.long q10), .second, .val (.int q12), .val (.ref ka), .val (.ref kb), .val (.ref b68), .val (.ref b70), .val (.ref b72), .val (.int (0 : Int32))] [(.int (0 : Int32))])
          refine own_go (fun t k => XS.ifNo X78.here hx rfl (hb hby at_186) rfl (by decide) k) ?_
          show Go _ _ _ _ _ T78 (mkF m 189 #[.val (.int p1), .val (.long p2), .second, .val (.long p3), .second, .val (.int p4), .val (.int p5), .val (.int p6), .val (.int i1), .val (.int i2), .val (.long q10), .second, .val (.int q12), .val (.ref ka), .val (.ref kb), .val (.ref b68), .val (.ref b70), .val (.ref b72), .val (.int (0 : Int32))] [])
          refine own_go (fun t k => XS.iconst X78.here hx rfl (hb hby at_189) k) ?_
          show Go _ _ _ _ _ T78 (mkF m 190 #[.val (.int p1), .val (.long p2), .second, .val (.long p3), .second, .val (.int p4), .val (.int p5), .val (.int p6), .val (.int i1), .val (.int i2), .val (.long q10), .second, .val (.int q12), .val (.ref ka), .val (.ref kb), .val (.ref b68), .val (.ref b70), .val (.ref b72), .val (.int (0 : Int32))] [(.int (1 : Int32))])
          refine own_go (fun t k => XS.goto X78.here hx rfl (pc0 := 190) (pc' := 194) rfl (hb hby at_190) (by decide) (by decide) k) ?_
          show Go _ _ _ _ _ T78 (mkF m 194 #[.val (.int p1), .val (.long p2), .second, .val (.long p3), .second, .val (.int p4), .val (.int p5), .val (.int p6), .val (.int i1), .val (.int i2), .val (.long q10), .second, .val (.int q12), .val (.ref ka), .val (.ref kb), .val (.ref b68), .val (.ref b70), .val (.ref b72), .val (.int (0 : Int32))] [(.int (1 : Int32))])
          refine own_retN X78 hx (own_lvW X78 hlk hS (by rw [e78]; exact hk72) (by decide) (by decide)) (t := .boolean) hret (by simp) (hb hby at_194) ?_
          exact ⟨rfl, N78⟩
        · skip
          show Go _ _ _ _ _ T72 (mkF m 115 #[.val (.int p1), .val (.long p2), .second, .val (.long p3), .second, .val (.int p4), .val (.int p5), .val (.int p6), .val (.int i1), .val (.int i2), .val (.long q10), .second, .val (.int q12), .val (.ref ka), .val (.ref kb), .val (.ref b68), .val (.ref b70), .val (.ref b72), .unset] [])
          refine own_go (fun t k => XS.lloadN X72.here hx rfl (hb hby at_115) rfl k) ?_
          show Go _ _ _ _ _ T72 (mkF m 116 #[.val (.int p1), .val (.long p2), .second, .val (.long p3), .second, .val (.int p4), .val (.int p5), .val (.int p6), .val (.int i1), .val (.int i2), .val (.long q10), .second, .val (.int q12), .val (.ref ka), .val (.ref kb), .val (.ref b68), .val (.ref b70), .val (.ref b72), .unset] [(.long p2)])
          refine own_go (fun t k => XS.lload X72.here hx rfl (hb hby at_116) rfl k) ?_
          show Go _ _ _ _ _ T72 (mkF m 118 #[.val (.int p1), .val (.long p2), .second, .val (.long p3), .second, .val (.int p4), .val (.int p5), .val (.int p6), .val (.int i1), .val (.int i2), .val (.long q10), .second, .val (.int q12), .val (.ref ka), .val (.ref kb), .val (.ref b68), .val (.ref b70), .val (.ref b72), .unset] [(.long q10), (.long p2)])
          refine own_go (fun t k => XS.lcmp X72.here hx rfl (hb hby at_118) rfl k) ?_
          show Go _ _ _ _ _ T72 (mkF m 119 #[.val (.int p1), .val (.long p2), .second, .val (.long p3), .second, .val (.int p4), .val (.int p5), .val (.int p6), .val (.int i1), .val (.int i2), .val (.long q10), .second, .val (.int q12), .val (.ref ka), .val (.ref kb), .val (.ref b68), .val (.ref b70), .val (.ref b72), .unset] [(.int (lcmpW p2 q10))])
          refine own_ifM ((lcmpW p2 q10) = (0 : Int32)) X72 hx (hb hby at_119) (own_ne _ _) (by decide) (by decide) (pc' := 133) (fun hc79 => ?_) (fun hc79 => ?_)
          · skip
            show Go _ _ _ _ _ T72 (mkF m 133 #[.val (.int p1), .val (.long p2), .second, .val (.long p3), .second, .val (.int p4), .val (.int p5), .val (.int p6), .val (.int i1), .val (.int i2), .val (.long q10), .second, .val (.int q12), .val (.ref ka), .val (.ref kb), .val (.ref b68), .val (.ref b70), .val (.ref b72), .unset] [])
            refine own_go (fun t k => XS.iconst X72.here hx rfl (hb hby at_133) k) ?_
            show Go _ _ _ _ _ T72 (mkF m 134 #[.val (.int p1), .val (.long p2), .second, .val (.long p3), .second, .val (.int p4), .val (.int p5), .val (.int p6), .val (.int i1), .val (.int i2), .val (.long q10), .second, .val (.int q12), .val (.ref ka), .val (.ref kb), .val (.ref b68), .val (.ref b70), .val (.ref b72), .unset] [(.int (0 : Int32))])
            refine own_go (fun t k => XS.istore X72.here hx rfl (hb hby at_134) rfl (l' := #[.val (.int p1), .val (.long p2), .second, .val (.long p3), .second, .val (.int p4), .val (.int p5), .val (.int p6), .val (.int i1), .val (.int i2), .val (.long q10), .second, .val (.int q12), .val (.ref ka), .val (.ref kb), .val (.ref b68), .val (.ref b70), .val (.ref b72), .val (.int (0 : Int32))]) rfl k) ?_
            have hkk : ka = kb := own_kind_eq i1 i2 w_LONE_LOW_SURROGATE w_HIGH_SURROGATE_AT_END w_REVERSED_BYTE_ORDER_MARK w_ODD_TRAILING_BYTE w_UNPAIRED_HIGH_SURROGATE hka hkb hc73
            have hsym : ¬ ((lcmpW q10 p2) = (0 : Int32)) := fun q => hc79 ((lw_eq p2 q10).mpr ((lw_eq q10 p2).mp q).symm)
            have hself : (lcmpW p2 p2) = (0 : Int32) := (lw_eq p2 p2).mpr rfl
            show Go _ _ _ _ _ T72 (mkF m 136 #[.val (.int p1), .val (.long p2), .second, .val (.long p3), .second, .val (.int p4), .val (.int p5), .val (.int p6), .val (.int i1), .val (.int i2), .val (.long q10), .second, .val (.int q12), .val (.ref ka), .val (.ref kb), .val (.ref b68), .val (.ref b70), .val (.ref b72), .val (.int (0 : Int32))] [])
            refine own_go (fun t k => XS.aload X72.here hx rfl (hb hby at_136) rfl rfl k) ?_
            show Go _ _ _ _ _ T72 (mkF m 138 #[.val (.int p1), .val (.long p2), .second, .val (.long p3), .second, .val (.int p4), .val (.int p5), .val (.int p6), .val (.int i1), .val (.int i2), .val (.long q10), .second, .val (.int q12), .val (.ref ka), .val (.ref kb), .val (.ref b68), .val (.ref b70), .val (.ref b72), .val (.int (0 : Int32))] [(.ref b68)])
            refine own_go (fun t k => XS.aload X72.here hx rfl (hb hby at_138) rfl rfl k) ?_
            show Go _ _ _ _ _ T72 (mkF m 140 #[.val (.int p1), .val (.long p2), .second, .val (.long p3), .second, .val (.int p4), .val (.int p5), .val (.int p6), .val (.int i1), .val (.int i2), .val (.long q10), .second, .val (.int q12), .val (.ref ka), .val (.ref kb), .val (.ref b68), .val (.ref b70), .val (.ref b72), .val (.int (0 : Int32))] [(.ref b70), (.ref b68)])
            refine own_callV X72 hx hZ (y := (⟨"com/example/pair16/pair16/Utf16Fault", "equals", "(Ljava/lang/Object;)Z"⟩ : MethodName)) hown (hw _ (List.mem_of_getElem? (i := 44) rfl)) (hw _ (List.mem_of_getElem? (i := 45) rfl)) (hw _ (List.mem_of_getElem? (i := 47) rfl)) (hw _ (List.mem_of_getElem? (i := 46) rfl)) (hw _ (List.mem_of_getElem? (i := 48) rfl)) (hw _ (List.mem_of_getElem? (i := 10) rfl)) (by decide) (rm_eq_same l Z a0 hw [] b68 b70 ka p2 p4 kb q10 q12 (0 : Int32) T72.heap n0 hn72 Ex71 F69_kind F69_offset F69_value F71_kind F71_offset F71_value (by rw [own_f_rm_eq_same, if_pos hkk, if_neg hc79]; try first | rfl | decide)) rfl Ex69 (by rw [hml]; rfl) (argsL := [(.ref b70)]) (rest := []) rfl rfl (lenOf own_pd6 rfl) (W := 0) (Nat.le_of_eq rfl) (by decide) (by decide) (hb hby at_140) (by decide) (by decide) ?_
            intro v80 T80 L80 X80 q80
            obtain ⟨rfl, N80q, e80⟩ := q80
            have N80 := Fr.app N72 N80q
            show Go _ _ _ _ _ T80 (mkF m 143 #[.val (.int p1), .val (.long p2), .second, .val (.long p3), .second, .val (.int p4), .val (.int p5), .val (.int p6), .val (.int i1), .val (.int i2), .val (.long q10), .second, .val (.int q12), .val (.ref ka), .val (.ref kb), .val (.ref b68), .val (.ref b70), .val (.ref b72), .val (.int (0 : Int32))] [(.int (0 : Int32))])
            refine own_go (fun t k => XS.iload X80.here hx rfl (hb hby at_143) rfl k) ?_
            show Go _ _ _ _ _ T80 (mkF m 145 #[.val (.int p1), .val (.long p2), .second, .val (.long p3), .second, .val (.int p4), .val (.int p5), .val (.int p6), .val (.int i1), .val (.int i2), .val (.long q10), .second, .val (.int q12), .val (.ref ka), .val (.ref kb), .val (.ref b68), .val (.ref b70), .val (.ref b72), .val (.int (0 : Int32))] [(.int (0 : Int32)), (.int (0 : Int32))])
            refine own_go (fun t k => XS.icmpNo X80.here hx rfl (hb hby at_145) rfl (by decide) k) ?_
            show Go _ _ _ _ _ T80 (mkF m 148 #[.val (.int p1), .val (.long p2), .second, .val (.long p3), .second, .val (.int p4), .val (.int p5), .val (.int p6), .val (.int i1), .val (.int i2), .val (.long q10), .second, .val (.int q12), .val (.ref ka), .val (.ref kb), .val (.ref b68), .val (.ref b70), .val (.ref b72), .val (.int (0 : Int32))] [])
            refine own_go (fun t k => XS.aload X80.here hx rfl (hb hby at_148) rfl rfl k) ?_
            show Go _ _ _ _ _ T80 (mkF m 150 #[.val (.int p1), .val (.long p2), .second, .val (.long p3), .second, .val (.int p4), .val (.int p5), .val (.int p6), .val (.int i1), .val (.int i2), .val (.long q10), .second, .val (.int q12), .val (.ref ka), .val (.ref kb), .val (.ref b68), .val (.ref b70), .val (.ref b72), .val (.int (0 : Int32))] [(.ref b70)])
            refine own_go (fun t k => XS.aload X80.here hx rfl (hb hby at_150) rfl rfl k) ?_
            show Go _ _ _ _ _ T80 (mkF m 152 #[.val (.int p1), .val (.long p2), .second, .val (.long p3), .second, .val (.int p4), .val (.int p5), .val (.int p6), .val (.int i1), .val (.int i2), .val (.long q10), .second, .val (.int q12), .val (.ref ka), .val (.ref kb), .val (.ref b68), .val (.ref b70), .val (.ref b72), .val (.int (0 : Int32))] [(.ref b68), (.ref b70)])
            refine own_callV X80 hx hZ (y := (⟨"com/example/pair16/pair16/Utf16Fault", "equals", "(Ljava/lang/Object;)Z"⟩ : MethodName)) hown (hw _ (List.mem_of_getElem? (i := 44) rfl)) (hw _ (List.mem_of_getElem? (i := 45) rfl)) (hw _ (List.mem_of_getElem? (i := 47) rfl)) (hw _ (List.mem_of_getElem? (i := 46) rfl)) (hw _ (List.mem_of_getElem? (i := 48) rfl)) (hw _ (List.mem_of_getElem? (i := 10) rfl)) (by decide) (rm_eq_same l Z a0 hw [] b70 b68 kb q10 q12 ka p2 p4 (0 : Int32) T72.heap n0 hn72 Ex69 F71_kind F71_offset F71_value F69_kind F69_offset F69_value (by rw [own_f_rm_eq_same, if_pos (hkk).symm, if_neg hsym]; try first | rfl | decide)) e80 Ex71 (by rw [hml]; rfl) (argsL := [(.ref b68)]) (rest := []) rfl rfl (lenOf own_pd6 rfl) (W := 0) (Nat.le_of_eq rfl) (by decide) (by decide) (hb hby at_152) (by decide) (by decide) ?_
            intro v81 T81 L81 X81 q81
            obtain ⟨rfl, N81q, e81⟩ := q81
            have N81 := Fr.app N80 N81q
            show Go _ _ _ _ _ T81 (mkF m 155 #[.val (.int p1), .val (.long p2), .second, .val (.long p3), .second, .val (.int p4), .val (.int p5), .val (.int p6), .val (.int i1), .val (.int i2), .val (.long q10), .second, .val (.int q12), .val (.ref ka), .val (.ref kb), .val (.ref b68), .val (.ref b70), .val (.ref b72), .val (.int (0 : Int32))] [(.int (0 : Int32))])
            refine own_go (fun t k => XS.iload X81.here hx rfl (hb hby at_155) rfl k) ?_
            show Go _ _ _ _ _ T81 (mkF m 157 #[.val (.int p1), .val (.long p2), .second, .val (.long p3), .second, .val (.int p4), .val (.int p5), .val (.int p6), .val (.int i1), .val (.int i2), .val (.long q10), .second, .val (.int q12), .val (.ref ka), .val (.ref kb), .val (.ref b68), .val (.ref b70), .val (.ref b72), .val (.int (0 : Int32))] [(.int (0 : Int32)), (.int (0 : Int32))])
            refine own_go (fun t k => XS.icmpNo X81.here hx rfl (hb hby at_157) rfl (by decide) k) ?_
            show Go _ _ _ _ _ T81 (mkF m 160 #[.val (.int p1), .val (.long p2), .second, .val (.long p3), .second, .val (.int p4), .val (.int p5), .val (.int p6), .val (.int i1), .val (.int i2), .val (.long q10), .second, .val (.int q12), .val (.ref ka), .val (.ref kb), .val (.ref b68), .val (.ref b70), .val (.ref b72), .val (.int (0 : Int32))] [])
            refine own_go (fun t k => XS.aload X81.here hx rfl (hb hby at_160) rfl rfl k) ?_
            show Go _ _ _ _ _ T81 (mkF m 162 #[.val (.int p1), .val (.long p2), .second, .val (.long p3), .second, .val (.int p4), .val (.int p5), .val (.int p6), .val (.int i1), .val (.int i2), .val (.long q10), .second, .val (.int q12), .val (.ref ka), .val (.ref kb), .val (.ref b68), .val (.ref b70), .val (.ref b72), .val (.int (0 : Int32))] [(.ref b68)])
            refine own_go (fun t k => XS.aload X81.here hx rfl (hb hby at_162) rfl rfl k) ?_
            show Go _ _ _ _ _ T81 (mkF m 164 #[.val (.int p1), .val (.long p2), .second, .val (.long p3), .second, .val (.int p4), .val (.int p5), .val (.int p6), .val (.int i1), .val (.int i2), .val (.long q10), .second, .val (.int q12), .val (.ref ka), .val (.ref kb), .val (.ref b68), .val (.ref b70), .val (.ref b72), .val (.int (0 : Int32))] [(.ref b68), (.ref b68)])
            refine own_callV X81 hx hZ (y := (⟨"com/example/pair16/pair16/Utf16Fault", "equals", "(Ljava/lang/Object;)Z"⟩ : MethodName)) hown (hw _ (List.mem_of_getElem? (i := 44) rfl)) (hw _ (List.mem_of_getElem? (i := 45) rfl)) (hw _ (List.mem_of_getElem? (i := 47) rfl)) (hw _ (List.mem_of_getElem? (i := 46) rfl)) (hw _ (List.mem_of_getElem? (i := 48) rfl)) (hw _ (List.mem_of_getElem? (i := 10) rfl)) (by decide) (rm_eq_same l Z a0 hw [] b68 b68 ka p2 p4 ka p2 p4 (1 : Int32) T72.heap n0 hn72 Ex69 F69_kind F69_offset F69_value F69_kind F69_offset F69_value (by rw [own_f_rm_eq_same, if_pos (show ka = ka from rfl), if_pos hself, if_pos (show p4 = p4 from rfl)]; try first | rfl | decide)) e81 Ex69 (by rw [hml]; rfl) (argsL := [(.ref b68)]) (rest := []) rfl rfl (lenOf own_pd6 rfl) (W := 0) (Nat.le_of_eq rfl) (by decide) (by decide) (hb hby at_164) (by decide) (by decide) ?_
            intro v82 T82 L82 X82 q82
            obtain ⟨rfl, N82q, e82⟩ := q82
            have N82 := Fr.app N81 N82q
            show Go _ _ _ _ _ T82 (mkF m 167 #[.val (.int p1), .val (.long p2), .second, .val (.long p3), .second, .val (.int p4), .val (.int p5), .val (.int p6), .val (.int i1), .val (.int i2), .val (.long q10), .second, .val (.int q12), .val (.ref ka), .val (.ref kb), .val (.ref b68), .val (.ref b70), .val (.ref b72), .val (.int (0 : Int32))] [(.int (1 : Int32))])
            refine own_go (fun t k => XS.ifNo X82.here hx rfl (hb hby at_167) rfl (by decide) k) ?_
            show Go _ _ _ _ _ T82 (mkF m 170 #[.val (.int p1), .val (.long p2), .second, .val (.long p3), .second, .val (.int p4), .val (.int p5), .val (.int p6), .val (.int i1), .val (.int i2), .val (.long q10), .second, .val (.int q12), .val (.ref ka), .val (.ref kb), .val (.ref b68), .val (.ref b70), .val (.ref b72), .val (.int (0 : Int32))] [])
            refine own_go (fun t k => XS.aload X82.here hx rfl (hb hby at_170) rfl rfl k) ?_
            show Go _ _ _ _ _ T82 (mkF m 172 #[.val (.int p1), .val (.long p2), .second, .val (.long p3), .second, .val (.int p4), .val (.int p5), .val (.int p6), .val (.int i1), .val (.int i2), .val (.long q10), .second, .val (.int q12), .val (.ref ka), .val (.ref kb), .val (.ref b68), .val (.ref b70), .val (.ref b72), .val (.int (0 : Int32))] [(.ref b68)])
            refine own_go (fun t k => XS.aconstNull X82.here hx rfl (hb hby at_172) k) ?_
            show Go _ _ _ _ _ T82 (mkF m 173 #[.val (.int p1), .val (.long p2), .second, .val (.long p3), .second, .val (.int p4), .val (.int p5), .val (.int p6), .val (.int i1), .val (.int i2), .val (.long q10), .second, .val (.int q12), .val (.ref ka), .val (.ref kb), .val (.ref b68), .val (.ref b70), .val (.ref b72), .val (.int (0 : Int32))] [.null, (.ref b68)])
            refine own_callV X82 hx hZ (y := (⟨"com/example/pair16/pair16/Utf16Fault", "equals", "(Ljava/lang/Object;)Z"⟩ : MethodName)) hown (hw _ (List.mem_of_getElem? (i := 44) rfl)) (hw _ (List.mem_of_getElem? (i := 45) rfl)) (hw _ (List.mem_of_getElem? (i := 47) rfl)) (hw _ (List.mem_of_getElem? (i := 46) rfl)) (hw _ (List.mem_of_getElem? (i := 48) rfl)) (hw _ (List.mem_of_getElem? (i := 10) rfl)) (by decide) (rm_eq_null l Z a0 hw [] b68 (0 : Int32) T72.heap n0 hn72  (by rw [own_f_rm_eq_null]; try first | rfl | decide)) e82 Ex69 (by rw [hml]; rfl) (argsL := [.null]) (rest := []) rfl rfl (lenOf own_pd6 rfl) (W := 0) (Nat.le_of_eq rfl) (by decide) (by decide) (hb hby at_173) (by decide) (by decide) ?_
            intro v83 T83 L83 X83 q83
            obtain ⟨rfl, N83q, e83⟩ := q83
            have N83 := Fr.app N82 N83q
            show Go _ _ _ _ _ T83 (mkF m 176 #[.val (.int p1), .val (.long p2), .second, .val (.long p3), .second, .val (.int p4), .val (.int p5), .val (.int p6), .val (.int i1), .val (.int i2), .val (.long q10), .second, .val (.int q12), .val (.ref ka), .val (.ref kb), .val (.ref b68), .val (.ref b70), .val (.ref b72), .val (.int (0 : Int32))] [(.int (0 : Int32))])
            refine own_go (fun t k => XS.ifNo X83.here hx rfl (hb hby at_176) rfl (by decide) k) ?_
            show Go _ _ _ _ _ T83 (mkF m 179 #[.val (.int p1), .val (.long p2), .second, .val (.long p3), .second, .val (.int p4), .val (.int p5), .val (.int p6), .val (.int i1), .val (.int i2), .val (.long q10), .second, .val (.int q12), .val (.ref ka), .val (.ref kb), .val (.ref b68), .val (.ref b70), .val (.ref b72), .val (.int (0 : Int32))] [])
            refine own_go (fun t k => XS.aload X83.here hx rfl (hb hby at_179) rfl rfl k) ?_
            show Go _ _ _ _ _ T83 (mkF m 181 #[.val (.int p1), .val (.long p2), .second, .val (.long p3), .second, .val (.int p4), .val (.int p5), .val (.int p6), .val (.int i1), .val (.int i2), .val (.long q10), .second, .val (.int q12), .val (.ref ka), .val (.ref kb), .val (.ref b68), .val (.ref b70), .val (.ref b72), .val (.int (0 : Int32))] [(.ref b68)])
            refine own_go (fun t k => XS.aload X83.here hx rfl (hb hby at_181) rfl rfl k) ?_
            show Go _ _ _ _ _ T83 (mkF m 183 #[.val (.int p1), .val (.long p2), .second, .val (.long p3), .second, .val (.int p4), .val (.int p5), .val (.int p6), .val (.int i1), .val (.int i2), .val (.long q10), .second, .val (.int q12), .val (.ref ka), .val (.ref kb), .val (.ref b68), .val (.ref b70), .val (.ref b72), .val (.int (0 : Int32))] [(.ref b72), (.ref b68)])
            refine own_callV X83 hx hZ (y := (⟨"com/example/pair16/pair16/Utf16Fault", "equals", "(Ljava/lang/Object;)Z"⟩ : MethodName)) hown (hw _ (List.mem_of_getElem? (i := 44) rfl)) (hw _ (List.mem_of_getElem? (i := 45) rfl)) (hw _ (List.mem_of_getElem? (i := 47) rfl)) (hw _ (List.mem_of_getElem? (i := 46) rfl)) (hw _ (List.mem_of_getElem? (i := 48) rfl)) (hw _ (List.mem_of_getElem? (i := 10) rfl)) (by decide) (rm_eq_other l Z a0 hw [] b68 b72 (0 : Int32) T72.heap n0 hn72 Ex72 (by rw [own_f_rm_eq_other]; try first | rfl | decide)) e83 Ex69 (by rw [hml]; rfl) (argsL := [(.ref b72)]) (rest := []) rfl rfl (lenOf own_pd6 rfl) (W := 0) (Nat.le_of_eq rfl) (by decide) (by decide) (hb hby at_183) (by decide) (by decide) ?_
            intro v84 T84 L84 X84 q84
            obtain ⟨rfl, N84q, e84⟩ := q84
            have N84 := Fr.app N83 N84q
            show Go _ _ _ _ _ T84 (mkF m 186 #[.val (.int p1), .val (.long p2), .second, .val (.long p3), .second, .val (.int p4), .val (.int p5), .val (.int p6), .val (.int i1), .val (.int i2), .val (.long q10), .second, .val (.int q12), .val (.ref ka), .val (.ref kb), .val (.ref b68), .val (.ref b70), .val (.ref b72), .val (.int (0 : Int32))] [(.int (0 : Int32))])
            refine own_go (fun t k => XS.ifNo X84.here hx rfl (hb hby at_186) rfl (by decide) k) ?_
            show Go _ _ _ _ _ T84 (mkF m 189 #[.val (.int p1), .val (.long p2), .second, .val (.long p3), .second, .val (.int p4), .val (.int p5), .val (.int p6), .val (.int i1), .val (.int i2), .val (.long q10), .second, .val (.int q12), .val (.ref ka), .val (.ref kb), .val (.ref b68), .val (.ref b70), .val (.ref b72), .val (.int (0 : Int32))] [])
            refine own_go (fun t k => XS.iconst X84.here hx rfl (hb hby at_189) k) ?_
            show Go _ _ _ _ _ T84 (mkF m 190 #[.val (.int p1), .val (.long p2), .second, .val (.long p3), .second, .val (.int p4), .val (.int p5), .val (.int p6), .val (.int i1), .val (.int i2), .val (.long q10), .second, .val (.int q12), .val (.ref ka), .val (.ref kb), .val (.ref b68), .val (.ref b70), .val (.ref b72), .val (.int (0 : Int32))] [(.int (1 : Int32))])
            refine own_go (fun t k => XS.goto X84.here hx rfl (pc0 := 190) (pc' := 194) rfl (hb hby at_190) (by decide) (by decide) k) ?_
            show Go _ _ _ _ _ T84 (mkF m 194 #[.val (.int p1), .val (.long p2), .second, .val (.long p3), .second, .val (.int p4), .val (.int p5), .val (.int p6), .val (.int i1), .val (.int i2), .val (.long q10), .second, .val (.int q12), .val (.ref ka), .val (.ref kb), .val (.ref b68), .val (.ref b70), .val (.ref b72), .val (.int (0 : Int32))] [(.int (1 : Int32))])
            refine own_retN X84 hx (own_lvW X84 hlk hS (by rw [e84]; exact hk72) (by decide) (by decide)) (t := .boolean) hret (by simp) (hb hby at_194) ?_
            exact ⟨rfl, N84⟩
          · skip
            show Go _ _ _ _ _ T72 (mkF m 122 #[.val (.int p1), .val (.long p2), .second, .val (.long p3), .second, .val (.int p4), .val (.int p5), .val (.int p6), .val (.int i1), .val (.int i2), .val (.long q10), .second, .val (.int q12), .val (.ref ka), .val (.ref kb), .val (.ref b68), .val (.ref b70), .val (.ref b72), .unset] [])
            refine own_go (fun t k => XS.iload X72.here hx rfl (hb hby at_122) rfl k) ?_
            show Go _ _ _ _ _ T72 (mkF m 124 #[.val (.int p1), .val (.long p2), .second, .val (.long p3), .second, .val (.int p4), .val (.int p5), .val (.int p6), .val (.int i1), .val (.int i2), .val (.long q10), .second, .val (.int q12), .val (.ref ka), .val (.ref kb), .val (.ref b68), .val (.ref b70), .val (.ref b72), .unset] [(.int p4)])
            refine own_go (fun t k => XS.iload X72.here hx rfl (hb hby at_124) rfl k) ?_
            show Go _ _ _ _ _ T72 (mkF m 126 #[.val (.int p1), .val (.long p2), .second, .val (.long p3), .second, .val (.int p4), .val (.int p5), .val (.int p6), .val (.int i1), .val (.int i2), .val (.long q10), .second, .val (.int q12), .val (.ref ka), .val (.ref kb), .val (.ref b68), .val (.ref b70), .val (.ref b72), .unset] [(.int q12), (.int p4)])
            refine own_icmpM (p4 = q12) X72 hx (hb hby at_126) (own_ne _ _) (by decide) (by decide) (pc' := 133) (fun hc85 => ?_) (fun hc85 => ?_)
            · skip
              show Go _ _ _ _ _ T72 (mkF m 133 #[.val (.int p1), .val (.long p2), .second, .val (.long p3), .second, .val (.int p4), .val (.int p5), .val (.int p6), .val (.int i1), .val (.int i2), .val (.long q10), .second, .val (.int q12), .val (.ref ka), .val (.ref kb), .val (.ref b68), .val (.ref b70), .val (.ref b72), .unset] [])
              refine own_go (fun t k => XS.iconst X72.here hx rfl (hb hby at_133) k) ?_
              show Go _ _ _ _ _ T72 (mkF m 134 #[.val (.int p1), .val (.long p2), .second, .val (.long p3), .second, .val (.int p4), .val (.int p5), .val (.int p6), .val (.int i1), .val (.int i2), .val (.long q10), .second, .val (.int q12), .val (.ref ka), .val (.ref kb), .val (.ref b68), .val (.ref b70), .val (.ref b72), .unset] [(.int (0 : Int32))])
              refine own_go (fun t k => XS.istore X72.here hx rfl (hb hby at_134) rfl (l' := #[.val (.int p1), .val (.long p2), .second, .val (.long p3), .second, .val (.int p4), .val (.int p5), .val (.int p6), .val (.int i1), .val (.int i2), .val (.long q10), .second, .val (.int q12), .val (.ref ka), .val (.ref kb), .val (.ref b68), .val (.ref b70), .val (.ref b72), .val (.int (0 : Int32))]) rfl k) ?_
              have hkk : ka = kb := own_kind_eq i1 i2 w_LONE_LOW_SURROGATE w_HIGH_SURROGATE_AT_END w_REVERSED_BYTE_ORDER_MARK w_ODD_TRAILING_BYTE w_UNPAIRED_HIGH_SURROGATE hka hkb hc73
              have hsym : ((lcmpW q10 p2) = (0 : Int32)) := (lw_eq q10 p2).mpr ((lw_eq p2 q10).mp hc79).symm
              have hself : (lcmpW p2 p2) = (0 : Int32) := (lw_eq p2 p2).mpr rfl
              show Go _ _ _ _ _ T72 (mkF m 136 #[.val (.int p1), .val (.long p2), .second, .val (.long p3), .second, .val (.int p4), .val (.int p5), .val (.int p6), .val (.int i1), .val (.int i2), .val (.long q10), .second, .val (.int q12), .val (.ref ka), .val (.ref kb), .val (.ref b68), .val (.ref b70), .val (.ref b72), .val (.int (0 : Int32))] [])
              refine own_go (fun t k => XS.aload X72.here hx rfl (hb hby at_136) rfl rfl k) ?_
              show Go _ _ _ _ _ T72 (mkF m 138 #[.val (.int p1), .val (.long p2), .second, .val (.long p3), .second, .val (.int p4), .val (.int p5), .val (.int p6), .val (.int i1), .val (.int i2), .val (.long q10), .second, .val (.int q12), .val (.ref ka), .val (.ref kb), .val (.ref b68), .val (.ref b70), .val (.ref b72), .val (.int (0 : Int32))] [(.ref b68)])
              refine own_go (fun t k => XS.aload X72.here hx rfl (hb hby at_138) rfl rfl k) ?_
              show Go _ _ _ _ _ T72 (mkF m 140 #[.val (.int p1), .val (.long p2), .second, .val (.long p3), .second, .val (.int p4), .val (.int p5), .val (.int p6), .val (.int i1), .val (.int i2), .val (.long q10), .second, .val (.int q12), .val (.ref ka), .val (.ref kb), .val (.ref b68), .val (.ref b70), .val (.ref b72), .val (.int (0 : Int32))] [(.ref b70), (.ref b68)])
              refine own_callV X72 hx hZ (y := (⟨"com/example/pair16/pair16/Utf16Fault", "equals", "(Ljava/lang/Object;)Z"⟩ : MethodName)) hown (hw _ (List.mem_of_getElem? (i := 44) rfl)) (hw _ (List.mem_of_getElem? (i := 45) rfl)) (hw _ (List.mem_of_getElem? (i := 47) rfl)) (hw _ (List.mem_of_getElem? (i := 46) rfl)) (hw _ (List.mem_of_getElem? (i := 48) rfl)) (hw _ (List.mem_of_getElem? (i := 10) rfl)) (by decide) (rm_eq_same l Z a0 hw [] b68 b70 ka p2 p4 kb q10 q12 (0 : Int32) T72.heap n0 hn72 Ex71 F69_kind F69_offset F69_value F71_kind F71_offset F71_value (by rw [own_f_rm_eq_same, if_pos hkk, if_pos hc79, if_neg hc85]; try first | rfl | decide)) rfl Ex69 (by rw [hml]; rfl) (argsL := [(.ref b70)]) (rest := []) rfl rfl (lenOf own_pd6 rfl) (W := 0) (Nat.le_of_eq rfl) (by decide) (by decide) (hb hby at_140) (by decide) (by decide) ?_
              intro v86 T86 L86 X86 q86
              obtain ⟨rfl, N86q, e86⟩ := q86
              have N86 := Fr.app N72 N86q
              show Go _ _ _ _ _ T86 (mkF m 143 #[.val (.int p1), .val (.long p2), .second, .val (.long p3), .second, .val (.int p4), .val (.int p5), .val (.int p6), .val (.int i1), .val (.int i2), .val (.long q10), .second, .val (.int q12), .val (.ref ka), .val (.ref kb), .val (.ref b68), .val (.ref b70), .val (.ref b72), .val (.int (0 : Int32))] [(.int (0 : Int32))])
              refine own_go (fun t k => XS.iload X86.here hx rfl (hb hby at_143) rfl k) ?_
              show Go _ _ _ _ _ T86 (mkF m 145 #[.val (.int p1), .val (.long p2), .second, .val (.long p3), .second, .val (.int p4), .val (.int p5), .val (.int p6), .val (.int i1), .val (.int i2), .val (.long q10), .second, .val (.int q12), .val (.ref ka), .val (.ref kb), .val (.ref b68), .val (.ref b70), .val (.ref b72), .val (.int (0 : Int32))] [(.int (0 : Int32)), (.int (0 : Int32))])
              refine own_go (fun t k => XS.icmpNo X86.here hx rfl (hb hby at_145) rfl (by decide) k) ?_
              show Go _ _ _ _ _ T86 (mkF m 148 #[.val (.int p1), .val (.long p2), .second, .val (.long p3), .second, .val (.int p4), .val (.int p5), .val (.int p6), .val (.int i1), .val (.int i2), .val (.long q10), .second, .val (.int q12), .val (.ref ka), .val (.ref kb), .val (.ref b68), .val (.ref b70), .val (.ref b72), .val (.int (0 : Int32))] [])
              refine own_go (fun t k => XS.aload X86.here hx rfl (hb hby at_148) rfl rfl k) ?_
              show Go _ _ _ _ _ T86 (mkF m 150 #[.val (.int p1), .val (.long p2), .second, .val (.long p3), .second, .val (.int p4), .val (.int p5), .val (.int p6), .val (.int i1), .val (.int i2), .val (.long q10), .second, .val (.int q12), .val (.ref ka), .val (.ref kb), .val (.ref b68), .val (.ref b70), .val (.ref b72), .val (.int (0 : Int32))] [(.ref b70)])
              refine own_go (fun t k => XS.aload X86.here hx rfl (hb hby at_150) rfl rfl k) ?_
              show Go _ _ _ _ _ T86 (mkF m 152 #[.val (.int p1), .val (.long p2), .second, .val (.long p3), .second, .val (.int p4), .val (.int p5), .val (.int p6), .val (.int i1), .val (.int i2), .val (.long q10), .second, .val (.int q12), .val (.ref ka), .val (.ref kb), .val (.ref b68), .val (.ref b70), .val (.ref b72), .val (.int (0 : Int32))] [(.ref b68), (.ref b70)])
              refine own_callV X86 hx hZ (y := (⟨"com/example/pair16/pair16/Utf16Fault", "equals", "(Ljava/lang/Object;)Z"⟩ : MethodName)) hown (hw _ (List.mem_of_getElem? (i := 44) rfl)) (hw _ (List.mem_of_getElem? (i := 45) rfl)) (hw _ (List.mem_of_getElem? (i := 47) rfl)) (hw _ (List.mem_of_getElem? (i := 46) rfl)) (hw _ (List.mem_of_getElem? (i := 48) rfl)) (hw _ (List.mem_of_getElem? (i := 10) rfl)) (by decide) (rm_eq_same l Z a0 hw [] b70 b68 kb q10 q12 ka p2 p4 (0 : Int32) T72.heap n0 hn72 Ex69 F71_kind F71_offset F71_value F69_kind F69_offset F69_value (by rw [own_f_rm_eq_same, if_pos (hkk).symm, if_pos hsym, if_neg (fun q => hc85 q.symm)]; try first | rfl | decide)) e86 Ex71 (by rw [hml]; rfl) (argsL := [(.ref b68)]) (rest := []) rfl rfl (lenOf own_pd6 rfl) (W := 0) (Nat.le_of_eq rfl) (by decide) (by decide) (hb hby at_152) (by decide) (by decide) ?_
              intro v87 T87 L87 X87 q87
              obtain ⟨rfl, N87q, e87⟩ := q87
              have N87 := Fr.app N86 N87q
              show Go _ _ _ _ _ T87 (mkF m 155 #[.val (.int p1), .val (.long p2), .second, .val (.long p3), .second, .val (.int p4), .val (.int p5), .val (.int p6), .val (.int i1), .val (.int i2), .val (.long q10), .second, .val (.int q12), .val (.ref ka), .val (.ref kb), .val (.ref b68), .val (.ref b70), .val (.ref b72), .val (.int (0 : Int32))] [(.int (0 : Int32))])
              refine own_go (fun t k => XS.iload X87.here hx rfl (hb hby at_155) rfl k) ?_
              show Go _ _ _ _ _ T87 (mkF m 157 #[.val (.int p1), .val (.long p2), .second, .val (.long p3), .second, .val (.int p4), .val (.int p5), .val (.int p6), .val (.int i1), .val (.int i2), .val (.long q10), .second, .val (.int q12), .val (.ref ka), .val (.ref kb), .val (.ref b68), .val (.ref b70), .val (.ref b72), .val (.int (0 : Int32))] [(.int (0 : Int32)), (.int (0 : Int32))])
              refine own_go (fun t k => XS.icmpNo X87.here hx rfl (hb hby at_157) rfl (by decide) k) ?_
              show Go _ _ _ _ _ T87 (mkF m 160 #[.val (.int p1), .val (.long p2), .second, .val (.long p3), .second, .val (.int p4), .val (.int p5), .val (.int p6), .val (.int i1), .val (.int i2), .val (.long q10), .second, .val (.int q12), .val (.ref ka), .val (.ref kb), .val (.ref b68), .val (.ref b70), .val (.ref b72), .val (.int (0 : Int32))] [])
              refine own_go (fun t k => XS.aload X87.here hx rfl (hb hby at_160) rfl rfl k) ?_
              show Go _ _ _ _ _ T87 (mkF m 162 #[.val (.int p1), .val (.long p2), .second, .val (.long p3), .second, .val (.int p4), .val (.int p5), .val (.int p6), .val (.int i1), .val (.int i2), .val (.long q10), .second, .val (.int q12), .val (.ref ka), .val (.ref kb), .val (.ref b68), .val (.ref b70), .val (.ref b72), .val (.int (0 : Int32))] [(.ref b68)])
              refine own_go (fun t k => XS.aload X87.here hx rfl (hb hby at_162) rfl rfl k) ?_
              show Go _ _ _ _ _ T87 (mkF m 164 #[.val (.int p1), .val (.long p2), .second, .val (.long p3), .second, .val (.int p4), .val (.int p5), .val (.int p6), .val (.int i1), .val (.int i2), .val (.long q10), .second, .val (.int q12), .val (.ref ka), .val (.ref kb), .val (.ref b68), .val (.ref b70), .val (.ref b72), .val (.int (0 : Int32))] [(.ref b68), (.ref b68)])
              refine own_callV X87 hx hZ (y := (⟨"com/example/pair16/pair16/Utf16Fault", "equals", "(Ljava/lang/Object;)Z"⟩ : MethodName)) hown (hw _ (List.mem_of_getElem? (i := 44) rfl)) (hw _ (List.mem_of_getElem? (i := 45) rfl)) (hw _ (List.mem_of_getElem? (i := 47) rfl)) (hw _ (List.mem_of_getElem? (i := 46) rfl)) (hw _ (List.mem_of_getElem? (i := 48) rfl)) (hw _ (List.mem_of_getElem? (i := 10) rfl)) (by decide) (rm_eq_same l Z a0 hw [] b68 b68 ka p2 p4 ka p2 p4 (1 : Int32) T72.heap n0 hn72 Ex69 F69_kind F69_offset F69_value F69_kind F69_offset F69_value (by rw [own_f_rm_eq_same, if_pos (show ka = ka from rfl), if_pos hself, if_pos (show p4 = p4 from rfl)]; try first | rfl | decide)) e87 Ex69 (by rw [hml]; rfl) (argsL := [(.ref b68)]) (rest := []) rfl rfl (lenOf own_pd6 rfl) (W := 0) (Nat.le_of_eq rfl) (by decide) (by decide) (hb hby at_164) (by decide) (by decide) ?_
              intro v88 T88 L88 X88 q88
              obtain ⟨rfl, N88q, e88⟩ := q88
              have N88 := Fr.app N87 N88q
              show Go _ _ _ _ _ T88 (mkF m 167 #[.val (.int p1), .val (.long p2), .second, .val (.long p3), .second, .val (.int p4), .val (.int p5), .val (.int p6), .val (.int i1), .val (.int i2), .val (.long q10), .second, .val (.int q12), .val (.ref ka), .val (.ref kb), .val (.ref b68), .val (.ref b70), .val (.ref b72), .val (.int (0 : Int32))] [(.int (1 : Int32))])
              refine own_go (fun t k => XS.ifNo X88.here hx rfl (hb hby at_167) rfl (by decide) k) ?_
              show Go _ _ _ _ _ T88 (mkF m 170 #[.val (.int p1), .val (.long p2), .second, .val (.long p3), .second, .val (.int p4), .val (.int p5), .val (.int p6), .val (.int i1), .val (.int i2), .val (.long q10), .second, .val (.int q12), .val (.ref ka), .val (.ref kb), .val (.ref b68), .val (.ref b70), .val (.ref b72), .val (.int (0 : Int32))] [])
              refine own_go (fun t k => XS.aload X88.here hx rfl (hb hby at_170) rfl rfl k) ?_
              show Go _ _ _ _ _ T88 (mkF m 172 #[.val (.int p1), .val (.long p2), .second, .val (.long p3), .second, .val (.int p4), .val (.int p5), .val (.int p6), .val (.int i1), .val (.int i2), .val (.long q10), .second, .val (.int q12), .val (.ref ka), .val (.ref kb), .val (.ref b68), .val (.ref b70), .val (.ref b72), .val (.int (0 : Int32))] [(.ref b68)])
              refine own_go (fun t k => XS.aconstNull X88.here hx rfl (hb hby at_172) k) ?_
              show Go _ _ _ _ _ T88 (mkF m 173 #[.val (.int p1), .val (.long p2), .second, .val (.long p3), .second, .val (.int p4), .val (.int p5), .val (.int p6), .val (.int i1), .val (.int i2), .val (.long q10), .second, .val (.int q12), .val (.ref ka), .val (.ref kb), .val (.ref b68), .val (.ref b70), .val (.ref b72), .val (.int (0 : Int32))] [.null, (.ref b68)])
              refine own_callV X88 hx hZ (y := (⟨"com/example/pair16/pair16/Utf16Fault", "equals", "(Ljava/lang/Object;)Z"⟩ : MethodName)) hown (hw _ (List.mem_of_getElem? (i := 44) rfl)) (hw _ (List.mem_of_getElem? (i := 45) rfl)) (hw _ (List.mem_of_getElem? (i := 47) rfl)) (hw _ (List.mem_of_getElem? (i := 46) rfl)) (hw _ (List.mem_of_getElem? (i := 48) rfl)) (hw _ (List.mem_of_getElem? (i := 10) rfl)) (by decide) (rm_eq_null l Z a0 hw [] b68 (0 : Int32) T72.heap n0 hn72  (by rw [own_f_rm_eq_null]; try first | rfl | decide)) e88 Ex69 (by rw [hml]; rfl) (argsL := [.null]) (rest := []) rfl rfl (lenOf own_pd6 rfl) (W := 0) (Nat.le_of_eq rfl) (by decide) (by decide) (hb hby at_173) (by decide) (by decide) ?_
              intro v89 T89 L89 X89 q89
              obtain ⟨rfl, N89q, e89⟩ := q89
              have N89 := Fr.app N88 N89q
              show Go _ _ _ _ _ T89 (mkF m 176 #[.val (.int p1), .val (.long p2), .second, .val (.long p3), .second, .val (.int p4), .val (.int p5), .val (.int p6), .val (.int i1), .val (.int i2), .val (.long q10), .second, .val (.int q12), .val (.ref ka), .val (.ref kb), .val (.ref b68), .val (.ref b70), .val (.ref b72), .val (.int (0 : Int32))] [(.int (0 : Int32))])
              refine own_go (fun t k => XS.ifNo X89.here hx rfl (hb hby at_176) rfl (by decide) k) ?_
              show Go _ _ _ _ _ T89 (mkF m 179 #[.val (.int p1), .val (.long p2), .second, .val (.long p3), .second, .val (.int p4), .val (.int p5), .val (.int p6), .val (.int i1), .val (.int i2), .val (.long q10), .second, .val (.int q12), .val (.ref ka), .val (.ref kb), .val (.ref b68), .val (.ref b70), .val (.ref b72), .val (.int (0 : Int32))] [])
              refine own_go (fun t k => XS.aload X89.here hx rfl (hb hby at_179) rfl rfl k) ?_
              show Go _ _ _ _ _ T89 (mkF m 181 #[.val (.int p1), .val (.long p2), .second, .val (.long p3), .second, .val (.int p4), .val (.int p5), .val (.int p6), .val (.int i1), .val (.int i2), .val (.long q10), .second, .val (.int q12), .val (.ref ka), .val (.ref kb), .val (.ref b68), .val (.ref b70), .val (.ref b72), .val (.int (0 : Int32))] [(.ref b68)])
              refine own_go (fun t k => XS.aload X89.here hx rfl (hb hby at_181) rfl rfl k) ?_
              show Go _ _ _ _ _ T89 (mkF m 183 #[.val (.int p1), .val (.long p2), .second, .val (.long p3), .second, .val (.int p4), .val (.int p5), .val (.int p6), .val (.int i1), .val (.int i2), .val (.long q10), .second, .val (.int q12), .val (.ref ka), .val (.ref kb), .val (.ref b68), .val (.ref b70), .val (.ref b72), .val (.int (0 : Int32))] [(.ref b72), (.ref b68)])
              refine own_callV X89 hx hZ (y := (⟨"com/example/pair16/pair16/Utf16Fault", "equals", "(Ljava/lang/Object;)Z"⟩ : MethodName)) hown (hw _ (List.mem_of_getElem? (i := 44) rfl)) (hw _ (List.mem_of_getElem? (i := 45) rfl)) (hw _ (List.mem_of_getElem? (i := 47) rfl)) (hw _ (List.mem_of_getElem? (i := 46) rfl)) (hw _ (List.mem_of_getElem? (i := 48) rfl)) (hw _ (List.mem_of_getElem? (i := 10) rfl)) (by decide) (rm_eq_other l Z a0 hw [] b68 b72 (0 : Int32) T72.heap n0 hn72 Ex72 (by rw [own_f_rm_eq_other]; try first | rfl | decide)) e89 Ex69 (by rw [hml]; rfl) (argsL := [(.ref b72)]) (rest := []) rfl rfl (lenOf own_pd6 rfl) (W := 0) (Nat.le_of_eq rfl) (by decide) (by decide) (hb hby at_183) (by decide) (by decide) ?_
              intro v90 T90 L90 X90 q90
              obtain ⟨rfl, N90q, e90⟩ := q90
              have N90 := Fr.app N89 N90q
              show Go _ _ _ _ _ T90 (mkF m 186 #[.val (.int p1), .val (.long p2), .second, .val (.long p3), .second, .val (.int p4), .val (.int p5), .val (.int p6), .val (.int i1), .val (.int i2), .val (.long q10), .second, .val (.int q12), .val (.ref ka), .val (.ref kb), .val (.ref b68), .val (.ref b70), .val (.ref b72), .val (.int (0 : Int32))] [(.int (0 : Int32))])
              refine own_go (fun t k => XS.ifNo X90.here hx rfl (hb hby at_186) rfl (by decide) k) ?_
              show Go _ _ _ _ _ T90 (mkF m 189 #[.val (.int p1), .val (.long p2), .second, .val (.long p3), .second, .val (.int p4), .val (.int p5), .val (.int p6), .val (.int i1), .val (.int i2), .val (.long q10), .second, .val (.int q12), .val (.ref ka), .val (.ref kb), .val (.ref b68), .val (.ref b70), .val (.ref b72), .val (.int (0 : Int32))] [])
              refine own_go (fun t k => XS.iconst X90.here hx rfl (hb hby at_189) k) ?_
              show Go _ _ _ _ _ T90 (mkF m 190 #[.val (.int p1), .val (.long p2), .second, .val (.long p3), .second, .val (.int p4), .val (.int p5), .val (.int p6), .val (.int i1), .val (.int i2), .val (.long q10), .second, .val (.int q12), .val (.ref ka), .val (.ref kb), .val (.ref b68), .val (.ref b70), .val (.ref b72), .val (.int (0 : Int32))] [(.int (1 : Int32))])
              refine own_go (fun t k => XS.goto X90.here hx rfl (pc0 := 190) (pc' := 194) rfl (hb hby at_190) (by decide) (by decide) k) ?_
              show Go _ _ _ _ _ T90 (mkF m 194 #[.val (.int p1), .val (.long p2), .second, .val (.long p3), .second, .val (.int p4), .val (.int p5), .val (.int p6), .val (.int i1), .val (.int i2), .val (.long q10), .second, .val (.int q12), .val (.ref ka), .val (.ref kb), .val (.ref b68), .val (.ref b70), .val (.ref b72), .val (.int (0 : Int32))] [(.int (1 : Int32))])
              refine own_retN X90 hx (own_lvW X90 hlk hS (by rw [e90]; exact hk72) (by decide) (by decide)) (t := .boolean) hret (by simp) (hb hby at_194) ?_
              exact ⟨rfl, N90⟩
            · skip
              show Go _ _ _ _ _ T72 (mkF m 129 #[.val (.int p1), .val (.long p2), .second, .val (.long p3), .second, .val (.int p4), .val (.int p5), .val (.int p6), .val (.int i1), .val (.int i2), .val (.long q10), .second, .val (.int q12), .val (.ref ka), .val (.ref kb), .val (.ref b68), .val (.ref b70), .val (.ref b72), .unset] [])
              refine own_go (fun t k => XS.iconst X72.here hx rfl (hb hby at_129) k) ?_
              show Go _ _ _ _ _ T72 (mkF m 130 #[.val (.int p1), .val (.long p2), .second, .val (.long p3), .second, .val (.int p4), .val (.int p5), .val (.int p6), .val (.int i1), .val (.int i2), .val (.long q10), .second, .val (.int q12), .val (.ref ka), .val (.ref kb), .val (.ref b68), .val (.ref b70), .val (.ref b72), .unset] [(.int (1 : Int32))])
              refine own_go (fun t k => XS.goto X72.here hx rfl (pc0 := 130) (pc' := 134) rfl (hb hby at_130) (by decide) (by decide) k) ?_
              show Go _ _ _ _ _ T72 (mkF m 134 #[.val (.int p1), .val (.long p2), .second, .val (.long p3), .second, .val (.int p4), .val (.int p5), .val (.int p6), .val (.int i1), .val (.int i2), .val (.long q10), .second, .val (.int q12), .val (.ref ka), .val (.ref kb), .val (.ref b68), .val (.ref b70), .val (.ref b72), .unset] [(.int (1 : Int32))])
              refine own_go (fun t k => XS.istore X72.here hx rfl (hb hby at_134) rfl (l' := #[.val (.int p1), .val (.long p2), .second, .val (.long p3), .second, .val (.int p4), .val (.int p5), .val (.int p6), .val (.int i1), .val (.int i2), .val (.long q10), .second, .val (.int q12), .val (.ref ka), .val (.ref kb), .val (.ref b68), .val (.ref b70), .val (.ref b72), .val (.int (1 : Int32))]) rfl k) ?_
              have hkk : ka = kb := own_kind_eq i1 i2 w_LONE_LOW_SURROGATE w_HIGH_SURROGATE_AT_END w_REVERSED_BYTE_ORDER_MARK w_ODD_TRAILING_BYTE w_UNPAIRED_HIGH_SURROGATE hka hkb hc73
              have hsym : ((lcmpW q10 p2) = (0 : Int32)) := (lw_eq q10 p2).mpr ((lw_eq p2 q10).mp hc79).symm
              have hself : (lcmpW p2 p2) = (0 : Int32) := (lw_eq p2 p2).mpr rfl
              show Go _ _ _ _ _ T72 (mkF m 136 #[.val (.int p1), .val (.long p2), .second, .val (.long p3), .second, .val (.int p4), .val (.int p5), .val (.int p6), .val (.int i1), .val (.int i2), .val (.long q10), .second, .val (.int q12), .val (.ref ka), .val (.ref kb), .val (.ref b68), .val (.ref b70), .val (.ref b72), .val (.int (1 : Int32))] [])
              refine own_go (fun t k => XS.aload X72.here hx rfl (hb hby at_136) rfl rfl k) ?_
              show Go _ _ _ _ _ T72 (mkF m 138 #[.val (.int p1), .val (.long p2), .second, .val (.long p3), .second, .val (.int p4), .val (.int p5), .val (.int p6), .val (.int i1), .val (.int i2), .val (.long q10), .second, .val (.int q12), .val (.ref ka), .val (.ref kb), .val (.ref b68), .val (.ref b70), .val (.ref b72), .val (.int (1 : Int32))] [(.ref b68)])
              refine own_go (fun t k => XS.aload X72.here hx rfl (hb hby at_138) rfl rfl k) ?_
              show Go _ _ _ _ _ T72 (mkF m 140 #[.val (.int p1), .val (.long p2), .second, .val (.long p3), .second, .val (.int p4), .val (.int p5), .val (.int p6), .val (.int i1), .val (.int i2), .val (.long q10), .second, .val (.int q12), .val (.ref ka), .val (.ref kb), .val (.ref b68), .val (.ref b70), .val (.ref b72), .val (.int (1 : Int32))] [(.ref b70), (.ref b68)])
              refine own_callV X72 hx hZ (y := (⟨"com/example/pair16/pair16/Utf16Fault", "equals", "(Ljava/lang/Object;)Z"⟩ : MethodName)) hown (hw _ (List.mem_of_getElem? (i := 44) rfl)) (hw _ (List.mem_of_getElem? (i := 45) rfl)) (hw _ (List.mem_of_getElem? (i := 47) rfl)) (hw _ (List.mem_of_getElem? (i := 46) rfl)) (hw _ (List.mem_of_getElem? (i := 48) rfl)) (hw _ (List.mem_of_getElem? (i := 10) rfl)) (by decide) (rm_eq_same l Z a0 hw [] b68 b70 ka p2 p4 kb q10 q12 (1 : Int32) T72.heap n0 hn72 Ex71 F69_kind F69_offset F69_value F71_kind F71_offset F71_value (by rw [own_f_rm_eq_same, if_pos hkk, if_pos hc79, if_pos hc85]; try first | rfl | decide)) rfl Ex69 (by rw [hml]; rfl) (argsL := [(.ref b70)]) (rest := []) rfl rfl (lenOf own_pd6 rfl) (W := 0) (Nat.le_of_eq rfl) (by decide) (by decide) (hb hby at_140) (by decide) (by decide) ?_
              intro v91 T91 L91 X91 q91
              obtain ⟨rfl, N91q, e91⟩ := q91
              have N91 := Fr.app N72 N91q
              show Go _ _ _ _ _ T91 (mkF m 143 #[.val (.int p1), .val (.long p2), .second, .val (.long p3), .second, .val (.int p4), .val (.int p5), .val (.int p6), .val (.int i1), .val (.int i2), .val (.long q10), .second, .val (.int q12), .val (.ref ka), .val (.ref kb), .val (.ref b68), .val (.ref b70), .val (.ref b72), .val (.int (1 : Int32))] [(.int (1 : Int32))])
              refine own_go (fun t k => XS.iload X91.here hx rfl (hb hby at_143) rfl k) ?_
              show Go _ _ _ _ _ T91 (mkF m 145 #[.val (.int p1), .val (.long p2), .second, .val (.long p3), .second, .val (.int p4), .val (.int p5), .val (.int p6), .val (.int i1), .val (.int i2), .val (.long q10), .second, .val (.int q12), .val (.ref ka), .val (.ref kb), .val (.ref b68), .val (.ref b70), .val (.ref b72), .val (.int (1 : Int32))] [(.int (1 : Int32)), (.int (1 : Int32))])
              refine own_go (fun t k => XS.icmpNo X91.here hx rfl (hb hby at_145) rfl (by decide) k) ?_
              show Go _ _ _ _ _ T91 (mkF m 148 #[.val (.int p1), .val (.long p2), .second, .val (.long p3), .second, .val (.int p4), .val (.int p5), .val (.int p6), .val (.int i1), .val (.int i2), .val (.long q10), .second, .val (.int q12), .val (.ref ka), .val (.ref kb), .val (.ref b68), .val (.ref b70), .val (.ref b72), .val (.int (1 : Int32))] [])
              refine own_go (fun t k => XS.aload X91.here hx rfl (hb hby at_148) rfl rfl k) ?_
              show Go _ _ _ _ _ T91 (mkF m 150 #[.val (.int p1), .val (.long p2), .second, .val (.long p3), .second, .val (.int p4), .val (.int p5), .val (.int p6), .val (.int i1), .val (.int i2), .val (.long q10), .second, .val (.int q12), .val (.ref ka), .val (.ref kb), .val (.ref b68), .val (.ref b70), .val (.ref b72), .val (.int (1 : Int32))] [(.ref b70)])
              refine own_go (fun t k => XS.aload X91.here hx rfl (hb hby at_150) rfl rfl k) ?_
              show Go _ _ _ _ _ T91 (mkF m 152 #[.val (.int p1), .val (.long p2), .second, .val (.long p3), .second, .val (.int p4), .val (.int p5), .val (.int p6), .val (.int i1), .val (.int i2), .val (.long q10), .second, .val (.int q12), .val (.ref ka), .val (.ref kb), .val (.ref b68), .val (.ref b70), .val (.ref b72), .val (.int (1 : Int32))] [(.ref b68), (.ref b70)])
              refine own_callV X91 hx hZ (y := (⟨"com/example/pair16/pair16/Utf16Fault", "equals", "(Ljava/lang/Object;)Z"⟩ : MethodName)) hown (hw _ (List.mem_of_getElem? (i := 44) rfl)) (hw _ (List.mem_of_getElem? (i := 45) rfl)) (hw _ (List.mem_of_getElem? (i := 47) rfl)) (hw _ (List.mem_of_getElem? (i := 46) rfl)) (hw _ (List.mem_of_getElem? (i := 48) rfl)) (hw _ (List.mem_of_getElem? (i := 10) rfl)) (by decide) (rm_eq_same l Z a0 hw [] b70 b68 kb q10 q12 ka p2 p4 (1 : Int32) T72.heap n0 hn72 Ex69 F71_kind F71_offset F71_value F69_kind F69_offset F69_value (by rw [own_f_rm_eq_same, if_pos (hkk).symm, if_pos hsym, if_pos (hc85).symm]; try first | rfl | decide)) e91 Ex71 (by rw [hml]; rfl) (argsL := [(.ref b68)]) (rest := []) rfl rfl (lenOf own_pd6 rfl) (W := 0) (Nat.le_of_eq rfl) (by decide) (by decide) (hb hby at_152) (by decide) (by decide) ?_
              intro v92 T92 L92 X92 q92
              obtain ⟨rfl, N92q, e92⟩ := q92
              have N92 := Fr.app N91 N92q
              show Go _ _ _ _ _ T92 (mkF m 155 #[.val (.int p1), .val (.long p2), .second, .val (.long p3), .second, .val (.int p4), .val (.int p5), .val (.int p6), .val (.int i1), .val (.int i2), .val (.long q10), .second, .val (.int q12), .val (.ref ka), .val (.ref kb), .val (.ref b68), .val (.ref b70), .val (.ref b72), .val (.int (1 : Int32))] [(.int (1 : Int32))])
              refine own_go (fun t k => XS.iload X92.here hx rfl (hb hby at_155) rfl k) ?_
              show Go _ _ _ _ _ T92 (mkF m 157 #[.val (.int p1), .val (.long p2), .second, .val (.long p3), .second, .val (.int p4), .val (.int p5), .val (.int p6), .val (.int i1), .val (.int i2), .val (.long q10), .second, .val (.int q12), .val (.ref ka), .val (.ref kb), .val (.ref b68), .val (.ref b70), .val (.ref b72), .val (.int (1 : Int32))] [(.int (1 : Int32)), (.int (1 : Int32))])
              refine own_go (fun t k => XS.icmpNo X92.here hx rfl (hb hby at_157) rfl (by decide) k) ?_
              show Go _ _ _ _ _ T92 (mkF m 160 #[.val (.int p1), .val (.long p2), .second, .val (.long p3), .second, .val (.int p4), .val (.int p5), .val (.int p6), .val (.int i1), .val (.int i2), .val (.long q10), .second, .val (.int q12), .val (.ref ka), .val (.ref kb), .val (.ref b68), .val (.ref b70), .val (.ref b72), .val (.int (1 : Int32))] [])
              refine own_go (fun t k => XS.aload X92.here hx rfl (hb hby at_160) rfl rfl k) ?_
              show Go _ _ _ _ _ T92 (mkF m 162 #[.val (.int p1), .val (.long p2), .second, .val (.long p3), .second, .val (.int p4), .val (.int p5), .val (.int p6), .val (.int i1), .val (.int i2), .val (.long q10), .second, .val (.int q12), .val (.ref ka), .val (.ref kb), .val (.ref b68), .val (.ref b70), .val (.ref b72), .val (.int (1 : Int32))] [(.ref b68)])
              refine own_go (fun t k => XS.aload X92.here hx rfl (hb hby at_162) rfl rfl k) ?_
              show Go _ _ _ _ _ T92 (mkF m 164 #[.val (.int p1), .val (.long p2), .second, .val (.long p3), .second, .val (.int p4), .val (.int p5), .val (.int p6), .val (.int i1), .val (.int i2), .val (.long q10), .second, .val (.int q12), .val (.ref ka), .val (.ref kb), .val (.ref b68), .val (.ref b70), .val (.ref b72), .val (.int (1 : Int32))] [(.ref b68), (.ref b68)])
              refine own_callV X92 hx hZ (y := (⟨"com/example/pair16/pair16/Utf16Fault", "equals", "(Ljava/lang/Object;)Z"⟩ : MethodName)) hown (hw _ (List.mem_of_getElem? (i := 44) rfl)) (hw _ (List.mem_of_getElem? (i := 45) rfl)) (hw _ (List.mem_of_getElem? (i := 47) rfl)) (hw _ (List.mem_of_getElem? (i := 46) rfl)) (hw _ (List.mem_of_getElem? (i := 48) rfl)) (hw _ (List.mem_of_getElem? (i := 10) rfl)) (by decide) (rm_eq_same l Z a0 hw [] b68 b68 ka p2 p4 ka p2 p4 (1 : Int32) T72.heap n0 hn72 Ex69 F69_kind F69_offset F69_value F69_kind F69_offset F69_value (by rw [own_f_rm_eq_same, if_pos (show ka = ka from rfl), if_pos hself, if_pos (show p4 = p4 from rfl)]; try first | rfl | decide)) e92 Ex69 (by rw [hml]; rfl) (argsL := [(.ref b68)]) (rest := []) rfl rfl (lenOf own_pd6 rfl) (W := 0) (Nat.le_of_eq rfl) (by decide) (by decide) (hb hby at_164) (by decide) (by decide) ?_
              intro v93 T93 L93 X93 q93
              obtain ⟨rfl, N93q, e93⟩ := q93
              have N93 := Fr.app N92 N93q
              show Go _ _ _ _ _ T93 (mkF m 167 #[.val (.int p1), .val (.long p2), .second, .val (.long p3), .second, .val (.int p4), .val (.int p5), .val (.int p6), .val (.int i1), .val (.int i2), .val (.long q10), .second, .val (.int q12), .val (.ref ka), .val (.ref kb), .val (.ref b68), .val (.ref b70), .val (.ref b72), .val (.int (1 : Int32))] [(.int (1 : Int32))])
              refine own_go (fun t k => XS.ifNo X93.here hx rfl (hb hby at_167) rfl (by decide) k) ?_
              show Go _ _ _ _ _ T93 (mkF m 170 #[.val (.int p1), .val (.long p2), .second, .val (.long p3), .second, .val (.int p4), .val (.int p5), .val (.int p6), .val (.int i1), .val (.int i2), .val (.long q10), .second, .val (.int q12), .val (.ref ka), .val (.ref kb), .val (.ref b68), .val (.ref b70), .val (.ref b72), .val (.int (1 : Int32))] [])
              refine own_go (fun t k => XS.aload X93.here hx rfl (hb hby at_170) rfl rfl k) ?_
              show Go _ _ _ _ _ T93 (mkF m 172 #[.val (.int p1), .val (.long p2), .second, .val (.long p3), .second, .val (.int p4), .val (.int p5), .val (.int p6), .val (.int i1), .val (.int i2), .val (.long q10), .second, .val (.int q12), .val (.ref ka), .val (.ref kb), .val (.ref b68), .val (.ref b70), .val (.ref b72), .val (.int (1 : Int32))] [(.ref b68)])
              refine own_go (fun t k => XS.aconstNull X93.here hx rfl (hb hby at_172) k) ?_
              show Go _ _ _ _ _ T93 (mkF m 173 #[.val (.int p1), .val (.long p2), .second, .val (.long p3), .second, .val (.int p4), .val (.int p5), .val (.int p6), .val (.int i1), .val (.int i2), .val (.long q10), .second, .val (.int q12), .val (.ref ka), .val (.ref kb), .val (.ref b68), .val (.ref b70), .val (.ref b72), .val (.int (1 : Int32))] [.null, (.ref b68)])
              refine own_callV X93 hx hZ (y := (⟨"com/example/pair16/pair16/Utf16Fault", "equals", "(Ljava/lang/Object;)Z"⟩ : MethodName)) hown (hw _ (List.mem_of_getElem? (i := 44) rfl)) (hw _ (List.mem_of_getElem? (i := 45) rfl)) (hw _ (List.mem_of_getElem? (i := 47) rfl)) (hw _ (List.mem_of_getElem? (i := 46) rfl)) (hw _ (List.mem_of_getElem? (i := 48) rfl)) (hw _ (List.mem_of_getElem? (i := 10) rfl)) (by decide) (rm_eq_null l Z a0 hw [] b68 (0 : Int32) T72.heap n0 hn72  (by rw [own_f_rm_eq_null]; try first | rfl | decide)) e93 Ex69 (by rw [hml]; rfl) (argsL := [.null]) (rest := []) rfl rfl (lenOf own_pd6 rfl) (W := 0) (Nat.le_of_eq rfl) (by decide) (by decide) (hb hby at_173) (by decide) (by decide) ?_
              intro v94 T94 L94 X94 q94
              obtain ⟨rfl, N94q, e94⟩ := q94
              have N94 := Fr.app N93 N94q
              show Go _ _ _ _ _ T94 (mkF m 176 #[.val (.int p1), .val (.long p2), .second, .val (.long p3), .second, .val (.int p4), .val (.int p5), .val (.int p6), .val (.int i1), .val (.int i2), .val (.long q10), .second, .val (.int q12), .val (.ref ka), .val (.ref kb), .val (.ref b68), .val (.ref b70), .val (.ref b72), .val (.int (1 : Int32))] [(.int (0 : Int32))])
              refine own_go (fun t k => XS.ifNo X94.here hx rfl (hb hby at_176) rfl (by decide) k) ?_
              show Go _ _ _ _ _ T94 (mkF m 179 #[.val (.int p1), .val (.long p2), .second, .val (.long p3), .second, .val (.int p4), .val (.int p5), .val (.int p6), .val (.int i1), .val (.int i2), .val (.long q10), .second, .val (.int q12), .val (.ref ka), .val (.ref kb), .val (.ref b68), .val (.ref b70), .val (.ref b72), .val (.int (1 : Int32))] [])
              refine own_go (fun t k => XS.aload X94.here hx rfl (hb hby at_179) rfl rfl k) ?_
              show Go _ _ _ _ _ T94 (mkF m 181 #[.val (.int p1), .val (.long p2), .second, .val (.long p3), .second, .val (.int p4), .val (.int p5), .val (.int p6), .val (.int i1), .val (.int i2), .val (.long q10), .second, .val (.int q12), .val (.ref ka), .val (.ref kb), .val (.ref b68), .val (.ref b70), .val (.ref b72), .val (.int (1 : Int32))] [(.ref b68)])
              refine own_go (fun t k => XS.aload X94.here hx rfl (hb hby at_181) rfl rfl k) ?_
              show Go _ _ _ _ _ T94 (mkF m 183 #[.val (.int p1), .val (.long p2), .second, .val (.long p3), .second, .val (.int p4), .val (.int p5), .val (.int p6), .val (.int i1), .val (.int i2), .val (.long q10), .second, .val (.int q12), .val (.ref ka), .val (.ref kb), .val (.ref b68), .val (.ref b70), .val (.ref b72), .val (.int (1 : Int32))] [(.ref b72), (.ref b68)])
              refine own_callV X94 hx hZ (y := (⟨"com/example/pair16/pair16/Utf16Fault", "equals", "(Ljava/lang/Object;)Z"⟩ : MethodName)) hown (hw _ (List.mem_of_getElem? (i := 44) rfl)) (hw _ (List.mem_of_getElem? (i := 45) rfl)) (hw _ (List.mem_of_getElem? (i := 47) rfl)) (hw _ (List.mem_of_getElem? (i := 46) rfl)) (hw _ (List.mem_of_getElem? (i := 48) rfl)) (hw _ (List.mem_of_getElem? (i := 10) rfl)) (by decide) (rm_eq_other l Z a0 hw [] b68 b72 (0 : Int32) T72.heap n0 hn72 Ex72 (by rw [own_f_rm_eq_other]; try first | rfl | decide)) e94 Ex69 (by rw [hml]; rfl) (argsL := [(.ref b72)]) (rest := []) rfl rfl (lenOf own_pd6 rfl) (W := 0) (Nat.le_of_eq rfl) (by decide) (by decide) (hb hby at_183) (by decide) (by decide) ?_
              intro v95 T95 L95 X95 q95
              obtain ⟨rfl, N95q, e95⟩ := q95
              have N95 := Fr.app N94 N95q
              show Go _ _ _ _ _ T95 (mkF m 186 #[.val (.int p1), .val (.long p2), .second, .val (.long p3), .second, .val (.int p4), .val (.int p5), .val (.int p6), .val (.int i1), .val (.int i2), .val (.long q10), .second, .val (.int q12), .val (.ref ka), .val (.ref kb), .val (.ref b68), .val (.ref b70), .val (.ref b72), .val (.int (1 : Int32))] [(.int (0 : Int32))])
              refine own_go (fun t k => XS.ifNo X95.here hx rfl (hb hby at_186) rfl (by decide) k) ?_
              show Go _ _ _ _ _ T95 (mkF m 189 #[.val (.int p1), .val (.long p2), .second, .val (.long p3), .second, .val (.int p4), .val (.int p5), .val (.int p6), .val (.int i1), .val (.int i2), .val (.long q10), .second, .val (.int q12), .val (.ref ka), .val (.ref kb), .val (.ref b68), .val (.ref b70), .val (.ref b72), .val (.int (1 : Int32))] [])
              refine own_go (fun t k => XS.iconst X95.here hx rfl (hb hby at_189) k) ?_
              show Go _ _ _ _ _ T95 (mkF m 190 #[.val (.int p1), .val (.long p2), .second, .val (.long p3), .second, .val (.int p4), .val (.int p5), .val (.int p6), .val (.int i1), .val (.int i2), .val (.long q10), .second, .val (.int q12), .val (.ref ka), .val (.ref kb), .val (.ref b68), .val (.ref b70), .val (.ref b72), .val (.int (1 : Int32))] [(.int (1 : Int32))])
              refine own_go (fun t k => XS.goto X95.here hx rfl (pc0 := 190) (pc' := 194) rfl (hb hby at_190) (by decide) (by decide) k) ?_
              show Go _ _ _ _ _ T95 (mkF m 194 #[.val (.int p1), .val (.long p2), .second, .val (.long p3), .second, .val (.int p4), .val (.int p5), .val (.int p6), .val (.int i1), .val (.int i2), .val (.long q10), .second, .val (.int q12), .val (.ref ka), .val (.ref kb), .val (.ref b68), .val (.ref b70), .val (.ref b72), .val (.int (1 : Int32))] [(.int (1 : Int32))])
              refine own_retN X95 hx (own_lvW X95 hlk hS (by rw [e95]; exact hk72) (by decide) (by decide)) (t := .boolean) hret (by simp) (hb hby at_194) ?_
              exact ⟨rfl, N95⟩
      show Go _ _ _ _ _ s₁ (mkF m 46 #[.val (.int p1), .val (.long p2), .second, .val (.long p3), .second, .val (.int p4), .val (.int p5), .val (.int p6), .val (.int i1), .val (.int i2), .val (.long q10), .second, .unset, .unset, .unset, .unset, .unset, .unset, .unset] [(.int (p6 &&& (2 : Int32)))])
      refine own_ifP ((p6 &&& (2 : Int32)) = (0 : Int32)) X0 hx (hb hby at_46) (own_eq _ _) (by decide) (by decide) (pc' := 54) (fun hc96 => ?_) (fun hc96 => ?_)
      · skip
        show Go _ _ _ _ _ s₁ (mkF m 54 #[.val (.int p1), .val (.long p2), .second, .val (.long p3), .second, .val (.int p4), .val (.int p5), .val (.int p6), .val (.int i1), .val (.int i2), .val (.long q10), .second, .unset, .unset, .unset, .unset, .unset, .unset, .unset] [])
        refine own_go (fun t k => XS.iload X0.here hx rfl (hb hby at_54) rfl k) ?_
        show Go _ _ _ _ _ s₁ (mkF m 56 #[.val (.int p1), .val (.long p2), .second, .val (.long p3), .second, .val (.int p4), .val (.int p5), .val (.int p6), .val (.int i1), .val (.int i2), .val (.long q10), .second, .unset, .unset, .unset, .unset, .unset, .unset, .unset] [(.int p5)])
        refine own_go (fun t k => XS.istore X0.here hx rfl (hb hby at_56) rfl (l' := #[.val (.int p1), .val (.long p2), .second, .val (.long p3), .second, .val (.int p4), .val (.int p5), .val (.int p6), .val (.int i1), .val (.int i2), .val (.long q10), .second, .val (.int p5), .unset, .unset, .unset, .unset, .unset, .unset]) rfl k) ?_
        show Go _ _ _ _ _ s₁ (mkF m 58 #[.val (.int p1), .val (.long p2), .second, .val (.long p3), .second, .val (.int p4), .val (.int p5), .val (.int p6), .val (.int i1), .val (.int i2), .val (.long q10), .second, .val (.int p5), .unset, .unset, .unset, .unset, .unset, .unset] [])
        exact J65 p5
      · skip
        show Go _ _ _ _ _ s₁ (mkF m 49 #[.val (.int p1), .val (.long p2), .second, .val (.long p3), .second, .val (.int p4), .val (.int p5), .val (.int p6), .val (.int i1), .val (.int i2), .val (.long q10), .second, .unset, .unset, .unset, .unset, .unset, .unset, .unset] [])
        refine own_go (fun t k => XS.iload X0.here hx rfl (hb hby at_49) rfl k) ?_
        show Go _ _ _ _ _ s₁ (mkF m 51 #[.val (.int p1), .val (.long p2), .second, .val (.long p3), .second, .val (.int p4), .val (.int p5), .val (.int p6), .val (.int i1), .val (.int i2), .val (.long q10), .second, .unset, .unset, .unset, .unset, .unset, .unset, .unset] [(.int p4)])
        refine own_go (fun t k => XS.goto X0.here hx rfl (pc0 := 51) (pc' := 56) rfl (hb hby at_51) (by decide) (by decide) k) ?_
        show Go _ _ _ _ _ s₁ (mkF m 56 #[.val (.int p1), .val (.long p2), .second, .val (.long p3), .second, .val (.int p4), .val (.int p5), .val (.int p6), .val (.int i1), .val (.int i2), .val (.long q10), .second, .unset, .unset, .unset, .unset, .unset, .unset, .unset] [(.int p4)])
        refine own_go (fun t k => XS.istore X0.here hx rfl (hb hby at_56) rfl (l' := #[.val (.int p1), .val (.long p2), .second, .val (.long p3), .second, .val (.int p4), .val (.int p5), .val (.int p6), .val (.int i1), .val (.int i2), .val (.long q10), .second, .val (.int p4), .unset, .unset, .unset, .unset, .unset, .unset]) rfl k) ?_
        show Go _ _ _ _ _ s₁ (mkF m 58 #[.val (.int p1), .val (.long p2), .second, .val (.long p3), .second, .val (.int p4), .val (.int p5), .val (.int p6), .val (.int i1), .val (.int i2), .val (.long q10), .second, .val (.int p4), .unset, .unset, .unset, .unset, .unset, .unset] [])
        exact J65 p4
    show Go _ _ _ _ _ s₁ (mkF m 32 #[.val (.int p1), .val (.long p2), .second, .val (.long p3), .second, .val (.int p4), .val (.int p5), .val (.int p6), .val (.int i1), .val (.int i2), .unset, .unset, .unset, .unset, .unset, .unset, .unset, .unset, .unset] [(.int (p6 &&& (1 : Int32)))])
    refine own_ifP ((p6 &&& (1 : Int32)) = (0 : Int32)) X0 hx (hb hby at_32) (own_eq _ _) (by decide) (by decide) (pc' := 39) (fun hc97 => ?_) (fun hc97 => ?_)
    · skip
      show Go _ _ _ _ _ s₁ (mkF m 39 #[.val (.int p1), .val (.long p2), .second, .val (.long p3), .second, .val (.int p4), .val (.int p5), .val (.int p6), .val (.int i1), .val (.int i2), .unset, .unset, .unset, .unset, .unset, .unset, .unset, .unset, .unset] [])
      refine own_go (fun t k => XS.lloadN X0.here hx rfl (hb hby at_39) rfl k) ?_
      show Go _ _ _ _ _ s₁ (mkF m 40 #[.val (.int p1), .val (.long p2), .second, .val (.long p3), .second, .val (.int p4), .val (.int p5), .val (.int p6), .val (.int i1), .val (.int i2), .unset, .unset, .unset, .unset, .unset, .unset, .unset, .unset, .unset] [(.long p3)])
      refine own_go (fun t k => XS.lstore X0.here hx rfl (hb hby at_40) rfl (l' := #[.val (.int p1), .val (.long p2), .second, .val (.long p3), .second, .val (.int p4), .val (.int p5), .val (.int p6), .val (.int i1), .val (.int i2), .val (.long p3), .second, .unset, .unset, .unset, .unset, .unset, .unset, .unset]) rfl k) ?_
      show Go _ _ _ _ _ s₁ (mkF m 42 #[.val (.int p1), .val (.long p2), .second, .val (.long p3), .second, .val (.int p4), .val (.int p5), .val (.int p6), .val (.int i1), .val (.int i2), .val (.long p3), .second, .unset, .unset, .unset, .unset, .unset, .unset, .unset] [])
      exact J64 p3
    · skip
      show Go _ _ _ _ _ s₁ (mkF m 35 #[.val (.int p1), .val (.long p2), .second, .val (.long p3), .second, .val (.int p4), .val (.int p5), .val (.int p6), .val (.int i1), .val (.int i2), .unset, .unset, .unset, .unset, .unset, .unset, .unset, .unset, .unset] [])
      refine own_go (fun t k => XS.lloadN X0.here hx rfl (hb hby at_35) rfl k) ?_
      show Go _ _ _ _ _ s₁ (mkF m 36 #[.val (.int p1), .val (.long p2), .second, .val (.long p3), .second, .val (.int p4), .val (.int p5), .val (.int p6), .val (.int i1), .val (.int i2), .unset, .unset, .unset, .unset, .unset, .unset, .unset, .unset, .unset] [(.long p2)])
      refine own_go (fun t k => XS.goto X0.here hx rfl (pc0 := 36) (pc' := 40) rfl (hb hby at_36) (by decide) (by decide) k) ?_
      show Go _ _ _ _ _ s₁ (mkF m 40 #[.val (.int p1), .val (.long p2), .second, .val (.long p3), .second, .val (.int p4), .val (.int p5), .val (.int p6), .val (.int i1), .val (.int i2), .unset, .unset, .unset, .unset, .unset, .unset, .unset, .unset, .unset] [(.long p2)])
      refine own_go (fun t k => XS.lstore X0.here hx rfl (hb hby at_40) rfl (l' := #[.val (.int p1), .val (.long p2), .second, .val (.long p3), .second, .val (.int p4), .val (.int p5), .val (.int p6), .val (.int i1), .val (.int i2), .val (.long p2), .second, .unset, .unset, .unset, .unset, .unset, .unset, .unset]) rfl k) ?_
      show Go _ _ _ _ _ s₁ (mkF m 42 #[.val (.int p1), .val (.long p2), .second, .val (.long p3), .second, .val (.int p4), .val (.int p5), .val (.int p6), .val (.int i1), .val (.int i2), .val (.long p2), .second, .unset, .unset, .unset, .unset, .unset, .unset, .unset] [])
      exact J64 p2
  show Go _ _ _ _ _ s₁ (mkF m 12 #[.val (.int p1), .val (.long p2), .second, .val (.long p3), .second, .val (.int p4), .val (.int p5), .val (.int p6), .val (.int i1), .unset, .unset, .unset, .unset, .unset, .unset, .unset, .unset, .unset, .unset] [(.int (p6 &&& (4 : Int32)))])
  refine own_ifP ((p6 &&& (4 : Int32)) = (0 : Int32)) X0 hx (hb hby at_12) (own_eq _ _) (by decide) (by decide) (pc' := 20) (fun hc98 => ?_) (fun hc98 => ?_)
  · skip
    show Go _ _ _ _ _ s₁ (mkF m 20 #[.val (.int p1), .val (.long p2), .second, .val (.long p3), .second, .val (.int p4), .val (.int p5), .val (.int p6), .val (.int i1), .unset, .unset, .unset, .unset, .unset, .unset, .unset, .unset, .unset, .unset] [])
    refine own_go (fun t k => XS.iloadN X0.here hx rfl (hb hby at_20) rfl k) ?_
    show Go _ _ _ _ _ s₁ (mkF m 21 #[.val (.int p1), .val (.long p2), .second, .val (.long p3), .second, .val (.int p4), .val (.int p5), .val (.int p6), .val (.int i1), .unset, .unset, .unset, .unset, .unset, .unset, .unset, .unset, .unset, .unset] [(.int p1)])
    refine own_go (fun t k => XS.bipush X0.here hx rfl (hb hby at_21) k) ?_
    show Go _ _ _ _ _ s₁ (mkF m 23 #[.val (.int p1), .val (.long p2), .second, .val (.long p3), .second, .val (.int p4), .val (.int p5), .val (.int p6), .val (.int i1), .unset, .unset, .unset, .unset, .unset, .unset, .unset, .unset, .unset, .unset] [(.int (8 : Int32)), (.int p1)])
    refine own_go (fun t k => XS.iushr X0.here hx rfl (hb hby at_23) rfl k) ?_
    show Go _ _ _ _ _ s₁ (mkF m 24 #[.val (.int p1), .val (.long p2), .second, .val (.long p3), .second, .val (.int p4), .val (.int p5), .val (.int p6), .val (.int i1), .unset, .unset, .unset, .unset, .unset, .unset, .unset, .unset, .unset, .unset] [(.int ((p1.toUInt32 >>> ((8 : Int32) &&& 31).toUInt32).toInt32))])
    refine own_go (fun t k => XS.iconst X0.here hx rfl (hb hby at_24) k) ?_
    show Go _ _ _ _ _ s₁ (mkF m 25 #[.val (.int p1), .val (.long p2), .second, .val (.long p3), .second, .val (.int p4), .val (.int p5), .val (.int p6), .val (.int i1), .unset, .unset, .unset, .unset, .unset, .unset, .unset, .unset, .unset, .unset] [(.int (5 : Int32)), (.int ((p1.toUInt32 >>> ((8 : Int32) &&& 31).toUInt32).toInt32))])
    refine own_go (fun t k => iremM X0 hx rfl (hb hby at_25) rfl (by decide) k) ?_
    show Go _ _ _ _ _ s₁ (mkF m 26 #[.val (.int p1), .val (.long p2), .second, .val (.long p3), .second, .val (.int p4), .val (.int p5), .val (.int p6), .val (.int i1), .unset, .unset, .unset, .unset, .unset, .unset, .unset, .unset, .unset, .unset] [(.int (((p1.toUInt32 >>> ((8 : Int32) &&& 31).toUInt32).toInt32) % (5 : Int32)))])
    refine own_go (fun t k => XS.istore X0.here hx rfl (hb hby at_26) rfl (l' := #[.val (.int p1), .val (.long p2), .second, .val (.long p3), .second, .val (.int p4), .val (.int p5), .val (.int p6), .val (.int i1), .val (.int (((p1.toUInt32 >>> ((8 : Int32) &&& 31).toUInt32).toInt32) % (5 : Int32))), .unset, .unset, .unset, .unset, .unset, .unset, .unset, .unset, .unset]) rfl k) ?_
    show Go _ _ _ _ _ s₁ (mkF m 28 #[.val (.int p1), .val (.long p2), .second, .val (.long p3), .second, .val (.int p4), .val (.int p5), .val (.int p6), .val (.int i1), .val (.int (((p1.toUInt32 >>> ((8 : Int32) &&& 31).toUInt32).toInt32) % (5 : Int32))), .unset, .unset, .unset, .unset, .unset, .unset, .unset, .unset, .unset] [])
    exact J63 (((p1.toUInt32 >>> ((8 : Int32) &&& 31).toUInt32).toInt32) % (5 : Int32)) (own_k5u p1)
  · skip
    show Go _ _ _ _ _ s₁ (mkF m 15 #[.val (.int p1), .val (.long p2), .second, .val (.long p3), .second, .val (.int p4), .val (.int p5), .val (.int p6), .val (.int i1), .unset, .unset, .unset, .unset, .unset, .unset, .unset, .unset, .unset, .unset] [])
    refine own_go (fun t k => XS.iload X0.here hx rfl (hb hby at_15) rfl k) ?_
    show Go _ _ _ _ _ s₁ (mkF m 17 #[.val (.int p1), .val (.long p2), .second, .val (.long p3), .second, .val (.int p4), .val (.int p5), .val (.int p6), .val (.int i1), .unset, .unset, .unset, .unset, .unset, .unset, .unset, .unset, .unset, .unset] [(.int i1)])
    refine own_go (fun t k => XS.goto X0.here hx rfl (pc0 := 17) (pc' := 26) rfl (hb hby at_17) (by decide) (by decide) k) ?_
    show Go _ _ _ _ _ s₁ (mkF m 26 #[.val (.int p1), .val (.long p2), .second, .val (.long p3), .second, .val (.int p4), .val (.int p5), .val (.int p6), .val (.int i1), .unset, .unset, .unset, .unset, .unset, .unset, .unset, .unset, .unset, .unset] [(.int i1)])
    refine own_go (fun t k => XS.istore X0.here hx rfl (hb hby at_26) rfl (l' := #[.val (.int p1), .val (.long p2), .second, .val (.long p3), .second, .val (.int p4), .val (.int p5), .val (.int p6), .val (.int i1), .val (.int i1), .unset, .unset, .unset, .unset, .unset, .unset, .unset, .unset, .unset]) rfl k) ?_
    show Go _ _ _ _ _ s₁ (mkF m 28 #[.val (.int p1), .val (.long p2), .second, .val (.long p3), .second, .val (.int p4), .val (.int p5), .val (.int p6), .val (.int i1), .val (.int i1), .unset, .unset, .unset, .unset, .unset, .unset, .unset, .unset, .unset] [])
    exact J63 i1 h1
set_option maxRecDepth 65536 in
set_option maxHeartbeats 40000000 in
theorem comes_1 {Post : Tables → Env → Array Value → State → Outcome → State → Prop} (hpost : ∀ tb e args s v u, (limb_1_1.after args s (.returned v) u = true ∧ limb_1_2.after args s (.returned v) u = true ∧ True) → ReturnedEndW s (.returned v) u (Jvm.fieldLocs frame_1_writes args s ++ Jvm.arrayLocs frame_1_arrays args s ++ Jvm.staticLocs frame_1_statics s) 16 1152 → Post tb e args s (.returned v) u) :
    ArmFor flags0 classFile x code maxLocals ret World_1 tables_1 room_1 Calls_1 rest_1 Pre_1 Post := by
  intro l hfl _ _ p e ha hc hk s m args below hf hA hF happ hP
  obtain ⟨hcalls, hrest, hpre⟩ := hP
  obtain ⟨-, -, -, hnamed, -, -, -, hat⟩ := (Spec.applies_iff hf).mp happ
  obtain ⟨hg, hn⟩ := and_e (Cond.before_iff.mp (show (Jvm.Cond.and given_1 narrow_1).before args s = true from hpre))
  obtain ⟨g1, g2⟩ := and_e hg
  obtain ⟨g3, g4⟩ := and_e g2
  obtain ⟨g5, g6⟩ := and_e g4
  obtain ⟨g7, g8⟩ := and_e g6
  obtain ⟨g9, g10⟩ := and_e g8
  obtain ⟨g11, g12⟩ := and_e g10
  obtain ⟨w0, w1, w2, w3, w4, w5, rfl⟩ : ∃ w0 w1 w2 w3 w4 w5 : Value, args = #[w0, w1, w2, w3, w4, w5] := by
    have hs : args.size = 6 := by simpa [Cond.value, given_1] using g1
    obtain ⟨L⟩ := args
    match L, hs with
    | [w0, w1, w2, w3, w4, w5], _ => exact ⟨w0, w1, w2, w3, w4, w5, rfl⟩
  have hw := fun d (hd : d ∈ tables_1) => atoms_spec (ws := Jvm.Cond.code x code maxLocals ret :: tables_1) hat d (List.mem_cons_of_mem _ hd)
  obtain ⟨hsets, hown0⟩ := atoms_of _ (rest_1_c_eq ▸ (show rest_1_c.before _ s = true from hrest))
  obtain ⟨i0, ei0⟩ := is_v g3
  obtain rfl : w0 = (.int i0) := Option.some.inj ei0
  obtain ⟨i1, ei1⟩ := isL_v g5
  obtain rfl : w1 = (.long i1) := Option.some.inj ei1
  obtain ⟨i2, ei2⟩ := isL_v g7
  obtain rfl : w2 = (.long i2) := Option.some.inj ei2
  obtain ⟨i3, ei3⟩ := is_v g9
  obtain rfl : w3 = (.int i3) := Option.some.inj ei3
  obtain ⟨i4, ei4⟩ := is_v g11
  obtain rfl : w4 = (.int i4) := Option.some.inj ei4
  obtain ⟨i5, ei5⟩ := is_v g12
  obtain rfl : w5 = (.int i5) := Option.some.inj ei5
  obtain ⟨g13, g14⟩ := and_e hn
  obtain ⟨g15, g16⟩ := and_e g14
  obtain ⟨g17, g18⟩ := and_e g16
  obtain ⟨g19, g20⟩ := and_e g18
  obtain ⟨g21, g22⟩ := and_e g20
  obtain ⟨g23, g24⟩ := and_e g22
  obtain ⟨g25, g26⟩ := and_e g24
  obtain ⟨g27, g28⟩ := and_e g26
  obtain ⟨g29, g30⟩ := and_e g28
  obtain ⟨w_LONE_LOW_SURROGATE, ew_LONE_LOW_SURROGATE⟩ := exa_v g13
  have S_LONE_LOW_SURROGATE : Sta s s.heap "com/example/pair16/pair16/Utf16Fault$Kind" "LONE_LOW_SURROGATE" "Lcom/example/pair16/pair16/Utf16Fault$Kind;" (.ref w_LONE_LOW_SURROGATE) := Sta.start ew_LONE_LOW_SURROGATE (Or.inr ⟨(hw _ (List.mem_of_getElem? (i := 6) rfl)), (hw _ (List.mem_of_getElem? (i := 7) rfl))⟩)
  have E_LONE_LOW_SURROGATE : Exa s s.heap w_LONE_LOW_SURROGATE "com/example/pair16/pair16/Utf16Fault$Kind" := Exa.start ew_LONE_LOW_SURROGATE g13
  have O_LONE_LOW_SURROGATE_ordinal : Fld s s.heap w_LONE_LOW_SURROGATE "java/lang/Enum" "ordinal" "I" (.int (0 : Int32)) := own_fld ew_LONE_LOW_SURROGATE g21
  obtain ⟨w_HIGH_SURROGATE_AT_END, ew_HIGH_SURROGATE_AT_END⟩ := exa_v g15
  have S_HIGH_SURROGATE_AT_END : Sta s s.heap "com/example/pair16/pair16/Utf16Fault$Kind" "HIGH_SURROGATE_AT_END" "Lcom/example/pair16/pair16/Utf16Fault$Kind;" (.ref w_HIGH_SURROGATE_AT_END) := Sta.start ew_HIGH_SURROGATE_AT_END (Or.inr ⟨(hw _ (List.mem_of_getElem? (i := 6) rfl)), (hw _ (List.mem_of_getElem? (i := 55) rfl))⟩)
  have E_HIGH_SURROGATE_AT_END : Exa s s.heap w_HIGH_SURROGATE_AT_END "com/example/pair16/pair16/Utf16Fault$Kind" := Exa.start ew_HIGH_SURROGATE_AT_END g15
  have O_HIGH_SURROGATE_AT_END_ordinal : Fld s s.heap w_HIGH_SURROGATE_AT_END "java/lang/Enum" "ordinal" "I" (.int (2 : Int32)) := own_fld ew_HIGH_SURROGATE_AT_END g30
  obtain ⟨w_REVERSED_BYTE_ORDER_MARK, ew_REVERSED_BYTE_ORDER_MARK⟩ := exa_v g17
  have S_REVERSED_BYTE_ORDER_MARK : Sta s s.heap "com/example/pair16/pair16/Utf16Fault$Kind" "REVERSED_BYTE_ORDER_MARK" "Lcom/example/pair16/pair16/Utf16Fault$Kind;" (.ref w_REVERSED_BYTE_ORDER_MARK) := Sta.start ew_REVERSED_BYTE_ORDER_MARK (Or.inr ⟨(hw _ (List.mem_of_getElem? (i := 6) rfl)), (hw _ (List.mem_of_getElem? (i := 57) rfl))⟩)
  have E_REVERSED_BYTE_ORDER_MARK : Exa s s.heap w_REVERSED_BYTE_ORDER_MARK "com/example/pair16/pair16/Utf16Fault$Kind" := Exa.start ew_REVERSED_BYTE_ORDER_MARK g17
  have O_REVERSED_BYTE_ORDER_MARK_ordinal : Fld s s.heap w_REVERSED_BYTE_ORDER_MARK "java/lang/Enum" "ordinal" "I" (.int (4 : Int32)) := own_fld ew_REVERSED_BYTE_ORDER_MARK g19
  obtain ⟨w_ODD_TRAILING_BYTE, ew_ODD_TRAILING_BYTE⟩ := exa_v g23
  have S_ODD_TRAILING_BYTE : Sta s s.heap "com/example/pair16/pair16/Utf16Fault$Kind" "ODD_TRAILING_BYTE" "Lcom/example/pair16/pair16/Utf16Fault$Kind;" (.ref w_ODD_TRAILING_BYTE) := Sta.start ew_ODD_TRAILING_BYTE (Or.inr ⟨(hw _ (List.mem_of_getElem? (i := 6) rfl)), (hw _ (List.mem_of_getElem? (i := 74) rfl))⟩)
  have E_ODD_TRAILING_BYTE : Exa s s.heap w_ODD_TRAILING_BYTE "com/example/pair16/pair16/Utf16Fault$Kind" := Exa.start ew_ODD_TRAILING_BYTE g23
  have O_ODD_TRAILING_BYTE_ordinal : Fld s s.heap w_ODD_TRAILING_BYTE "java/lang/Enum" "ordinal" "I" (.int (3 : Int32)) := own_fld ew_ODD_TRAILING_BYTE g25
  obtain ⟨w_UNPAIRED_HIGH_SURROGATE, ew_UNPAIRED_HIGH_SURROGATE⟩ := exa_v g27
  have S_UNPAIRED_HIGH_SURROGATE : Sta s s.heap "com/example/pair16/pair16/Utf16Fault$Kind" "UNPAIRED_HIGH_SURROGATE" "Lcom/example/pair16/pair16/Utf16Fault$Kind;" (.ref w_UNPAIRED_HIGH_SURROGATE) := Sta.start ew_UNPAIRED_HIGH_SURROGATE (Or.inr ⟨(hw _ (List.mem_of_getElem? (i := 6) rfl)), (hw _ (List.mem_of_getElem? (i := 76) rfl))⟩)
  have E_UNPAIRED_HIGH_SURROGATE : Exa s s.heap w_UNPAIRED_HIGH_SURROGATE "com/example/pair16/pair16/Utf16Fault$Kind" := Exa.start ew_UNPAIRED_HIGH_SURROGATE g27
  have O_UNPAIRED_HIGH_SURROGATE_ordinal : Fld s s.heap w_UNPAIRED_HIGH_SURROGATE "java/lang/Enum" "ordinal" "I" (.int (1 : Int32)) := own_fld ew_UNPAIRED_HIGH_SURROGATE g29
  obtain ⟨ca, eca⟩ := arr_v (Cond.before_iff.mp (hsets _ (List.mem_of_getElem? (i := 4) rfl)))
  have eh := own_high (Cond.before_iff.mp (hsets _ (List.mem_of_getElem? (i := 3) rfl)))
  have S_high := Sta.start eh (Or.inl (hsets _ (List.mem_of_getElem? (i := 1) rfl)))
  have S_cache := Sta.start eca (Or.inr ⟨(hw _ (List.mem_of_getElem? (i := 42) rfl)), (hsets _ (List.mem_of_getElem? (i := 2) rfl))⟩)
  have Ca : OwnCache s s.heap ca := own_cache eca (Cond.before_iff.mp (hsets _ (List.mem_of_getElem? (i := 4) rfl))) (Cond.before_iff.mp (hsets _ (List.mem_of_getElem? (i := 6) rfl))) (Cond.before_iff.mp (hsets _ (List.mem_of_getElem? (i := 7) rfl)))
  obtain ⟨n, o, h1, h2, h3, _, L, rfl, ⟨rfl, N⟩, hq⟩ := rm0 l s _ hw tables_1 i0 i1 i2 i3 i4 i5 w_LONE_LOW_SURROGATE w_HIGH_SURROGATE_AT_END w_REVERSED_BYTE_ORDER_MARK w_ODD_TRAILING_BYTE w_UNPAIRED_HIGH_SURROGATE ca s.heap s.heap.size (Nat.le_refl _) S_LONE_LOW_SURROGATE E_LONE_LOW_SURROGATE O_LONE_LOW_SURROGATE_ordinal S_HIGH_SURROGATE_AT_END E_HIGH_SURROGATE_AT_END O_HIGH_SURROGATE_AT_END_ordinal S_REVERSED_BYTE_ORDER_MARK E_REVERSED_BYTE_ORDER_MARK O_REVERSED_BYTE_ORDER_MARK_ordinal S_ODD_TRAILING_BYTE E_ODD_TRAILING_BYTE O_ODD_TRAILING_BYTE_ordinal S_UNPAIRED_HIGH_SURROGATE E_UNPAIRED_HIGH_SURROGATE O_UNPAIRED_HIGH_SURROGATE_ordinal S_high S_cache Ca p e ha hc hk s m _ below hf ((Spec.applies_iff_loose hf).mp happ).1 ⟨rfl, State.Warmed39.refl s, rfl⟩ trivial
  refine ⟨n, _, h1, h2, h3, hpost _ _ _ _ _ _ ⟨Cond.after_iff.mpr rfl, Cond.after_iff.mpr (eq_i res_at (Term.int_eval (1)) rfl), trivial⟩ ⟨hq.1, hq.2.1, hq.2.2.1, (hq.2.2.2.sift fun y hy => Or.inr (N y hy)).mono (by decide) (by decide)⟩⟩
theorem main_1_1 : Claimed_1_1 := comes_1 fun _ _ _ _ _ _ h hF => ⟨h.1, hF⟩
theorem main_1_2 : Claimed_1_2 := comes_1 fun _ _ _ _ _ _ h hF => ⟨h.2.1, hF⟩
end Jvm.Pilot.@@N@@
namespace Jvm.Pilot.@@N@@
open Jvm Jvm.ClassFile Sem Op Lib Jvm.Free Jvm.Stand Jvm.Pilot.@@N@@.Jvm.D
/-! MADE BY PROGRAM (witnessworld.py) out of the Statement's table words and the real class files: 21 classes; the members and pool entries that the words name. The judged class is class 1, her method 2. -/
namespace start1
open Jvm.ClassFile
def u (s : String) : CpInfo := .utf8 (stringToUtf16 s)
/-- a pool by its gaps: so many unusable entries, then the entry; so many at the end -/
def gap : Nat → List CpInfo → List CpInfo
  | 0, r => r
  | n + 1, r => .unusable :: gap n r
def poolList (es : List (Nat × CpInfo)) (last : Nat) : List CpInfo := es.foldr (fun e r => gap e.1 (e.2 :: r)) (gap last [])
def pool (es : List (Nat × CpInfo)) (last : Nat) : Array CpInfo := ⟨poolList es last⟩
def fileOf (pool : Array CpInfo) (this : Nat) (attrs : Array Attribute := #[]) (ms : Array MethodInfo := #[]) (fl : Nat := 33) (sup : Nat := 0) (ifs : Array Nat := #[]) (fds : Array FieldInfo := #[]) : ClassFile where
  minorVersion := 0
  majorVersion := 65
  constantPool := pool
  accessFlags := fl
  thisClass := this
  superClass := sup
  interfaces := ifs
  fields := fds
  methods := ms
  attributes := attrs
def plain (name : String) (sup : Option ClassId) : Class where
  name := name
  kind := .ordinary
  loader := none
  accessFlags := 33
  super := sup
  interfaces := #[]
  cf := none
  fields := #[]
  methods := #[]
  instanceTypes := #[]
  staticTypes := #[]
  resolved := #[]
  callSites := []
  init := .initialized
  statics := none
  mirror := none

def pool0 : Array CpInfo := pool [(5, u "<init>"), (0, u "()V"), (1, .class_ 10), (1, u "java/lang/Object")] 113

def k0c0 : Code := { maxStack := 0, maxLocals := 1, code := object_method_1_code, exceptionTable := #[], attributes := #[] }
def k0m0 : Method := { name := "<init>", desc := "()V", sig := { parameters := [], returnType := none }, accessFlags := 1, code := some k0c0 }
/-- java/lang/Object -/
def k0 : Class := { plain "java/lang/Object" none with
  accessFlags := 33
  interfaces := #[]
  cf := some (fileOf pool0 8 #[] #[{ accessFlags := 1, nameIndex := 5, descriptorIndex := 6, attributes := #[] }] 33 0 #[] #[])
  fields := #[]
  methods := #[k0m0]
  instanceTypes := #[]
  staticTypes := #[]
  resolved := Array.replicate 124 none
  statics := none }

def pool1 : Array CpInfo := pool [(2, .class_ 4), (1, u "java/lang/Object"), (0, u "<init>"), (0, u "()V"), (0, .fieldref 8 9), (0, .class_ 10), (0, .nameAndType 11 12), (0, u "com/example/pair16/pair16/Utf16Fault$Kind"), (0, u "LONE_LOW_SURROGATE"), (0, u "Lcom/example/pair16/pair16/Utf16Fault$Kind;"), (0, .fieldref 8 14), (0, .nameAndType 15 12), (0, u "UNPAIRED_HIGH_SURROGATE"), (0, .fieldref 8 17), (0, .nameAndType 18 12), (0, u "HIGH_SURROGATE_AT_END"), (0, .fieldref 8 20), (0, .nameAndType 21 12), (0, u "ODD_TRAILING_BYTE"), (0, .fieldref 8 23), (0, .nameAndType 24 12), (0, u "REVERSED_BYTE_ORDER_MARK"), (0, .integer 2147483647), (0, .methodref 27 28), (0, .class_ 29), (0, .nameAndType 30 31), (0, u "com/example/pair16/pair16/Utf16FaultEqualsPinLaw"), (0, u "kindOf"), (0, u "(I)Lcom/example/pair16/pair16/Utf16Fault$Kind;"), (0, .class_ 33), (0, u "com/example/pair16/pair16/Utf16Fault"), (0, .methodref 32 35), (0, .nameAndType 5 36), (0, u "(Lcom/example/pair16/pair16/Utf16Fault$Kind;JI)V"), (0, .methodref 38 39), (0, .class_ 40), (0, .nameAndType 41 42), (0, u "java/lang/Integer"), (0, u "valueOf"), (0, u "(I)Ljava/lang/Integer;"), (0, .methodref 32 44), (0, .nameAndType 45 46), (0, u "equals"), (0, u "(Ljava/lang/Object;)Z"), (3, u "law"), (0, u "(IJJIII)Z")] 4

def k1m0 : Method := { name := "<init>", desc := "()V", sig := { parameters := [], returnType := none }, accessFlags := 1, code := none }
def k1c1 : Code := { maxStack := 2, maxLocals := 1, code := method_2_code, exceptionTable := #[], attributes := #[] }
def k1m1 : Method := { name := "kindOf", desc := "(I)Lcom/example/pair16/pair16/Utf16Fault$Kind;", sig := { parameters := [.int], returnType := some (.object "com/example/pair16/pair16/Utf16Fault$Kind") }, accessFlags := 10, code := some k1c1 }
def k1c2 : Code := { maxStack := 6, maxLocals := 19, code := code, exceptionTable := #[], attributes := #[] }
def k1m2 : Method := { name := "law", desc := "(IJJIII)Z", sig := { parameters := [.int, .long, .long, .int, .int, .int], returnType := some .boolean }, accessFlags := 9, code := some k1c2 }
/-- com/example/pair16/pair16/Utf16FaultEqualsPinLaw -/
def k1 : Class := { plain "com/example/pair16/pair16/Utf16FaultEqualsPinLaw" (some 0) with
  accessFlags := 49
  interfaces := #[]
  cf := some (fileOf pool1 27 #[] #[{ accessFlags := 1, nameIndex := 5, descriptorIndex := 6, attributes := #[] }, { accessFlags := 10, nameIndex := 30, descriptorIndex := 31, attributes := #[] }, { accessFlags := 9, nameIndex := 50, descriptorIndex := 51, attributes := #[] }] 49 2 #[] #[])
  fields := #[]
  methods := #[k1m0, k1m1, k1m2]
  instanceTypes := #[]
  staticTypes := #[]
  resolved := Array.replicate 56 none
  statics := none }

def pool2 : Array CpInfo := pool [(1, .class_ 2), (0, u "java/lang/constant/Constable"), (0, .class_ 4), (0, u "java/lang/Object")] 6

/-- java/lang/constant/Constable -/
def k2 : Class := { plain "java/lang/constant/Constable" (some 0) with
  accessFlags := 1537
  interfaces := #[]
  cf := some (fileOf pool2 1 #[] #[] 1537 3 #[] #[])
  fields := #[]
  methods := #[]
  instanceTypes := #[]
  staticTypes := #[]
  resolved := Array.replicate 11 none
  statics := none }

def pool3 : Array CpInfo := pool [(1, .class_ 2), (0, u "java/lang/Comparable"), (0, .class_ 4), (0, u "java/lang/Object")] 7

/-- java/lang/Comparable -/
def k3 : Class := { plain "java/lang/Comparable" (some 0) with
  accessFlags := 1537
  interfaces := #[]
  cf := some (fileOf pool3 1 #[] #[] 1537 3 #[] #[])
  fields := #[]
  methods := #[]
  instanceTypes := #[]
  staticTypes := #[]
  resolved := Array.replicate 12 none
  statics := none }

def pool4 : Array CpInfo := pool [(1, .class_ 2), (0, u "java/io/Serializable"), (0, .class_ 4), (0, u "java/lang/Object")] 2

/-- java/io/Serializable -/
def k4 : Class := { plain "java/io/Serializable" (some 0) with
  accessFlags := 1537
  interfaces := #[]
  cf := some (fileOf pool4 1 #[] #[] 1537 3 #[] #[])
  fields := #[]
  methods := #[]
  instanceTypes := #[]
  staticTypes := #[]
  resolved := Array.replicate 7 none
  statics := none }

def pool5 : Array CpInfo := pool [(2, .class_ 4), (1, u "java/lang/Enum"), (0, u "name"), (0, u "Ljava/lang/String;"), (2, u "ordinal"), (0, u "I"), (1, .class_ 14), (1, u "java/lang/Object"), (4, u "hash"), (86, .class_ 108), (1, u "java/lang/Enum$EnumDesc"), (2, .class_ 112), (0, u "java/lang/constant/Constable"), (0, .class_ 114), (0, u "java/lang/Comparable"), (0, .class_ 116), (0, u "java/io/Serializable")] 87

/-- java/lang/Enum -/
def k5 : Class := { plain "java/lang/Enum" (some 0) with
  accessFlags := 1057
  interfaces := #[2, 3, 4]
  cf := some (fileOf pool5 2 #[.nestMembers #[106]] #[] 1057 12 #[111, 113, 115] #[{ accessFlags := 18, nameIndex := 5, descriptorIndex := 6, attributes := #[] }, { accessFlags := 18, nameIndex := 9, descriptorIndex := 10, attributes := #[] }, { accessFlags := 2, nameIndex := 19, descriptorIndex := 10, attributes := #[] }])
  fields := #[{ name := "name", type := (.object "java/lang/String"), accessFlags := 18, slot := 0, constantValue := 0 }, { name := "ordinal", type := .int, accessFlags := 18, slot := 1, constantValue := 0 }, { name := "hash", type := .int, accessFlags := 2, slot := 2, constantValue := 0 }]
  methods := #[]
  instanceTypes := #[(.object "java/lang/String"), .int, .int]
  staticTypes := #[]
  resolved := Array.replicate 204 none
  statics := none }

def pool6 : Array CpInfo := pool [(1, .class_ 2), (0, u "com/example/pair16/pair16/Utf16Fault$Kind"), (2, u "LONE_LOW_SURROGATE"), (0, u "Lcom/example/pair16/pair16/Utf16Fault$Kind;"), (2, u "UNPAIRED_HIGH_SURROGATE"), (2, u "HIGH_SURROGATE_AT_END"), (2, u "ODD_TRAILING_BYTE"), (2, u "REVERSED_BYTE_ORDER_MARK"), (2, u "$VALUES"), (0, u "[Lcom/example/pair16/pair16/Utf16Fault$Kind;"), (6, .class_ 31), (1, u "java/lang/Enum"), (18, u "description"), (0, u "Ljava/lang/String;"), (2, u "digits"), (0, u "I"), (9, .class_ 67), (1, u "com/example/pair16/pair16/Utf16Fault"), (42, u "DIGIT"), (0, u "C")] 21

/-- com/example/pair16/pair16/Utf16Fault$Kind -/
def k6 : Class := { plain "com/example/pair16/pair16/Utf16Fault$Kind" (some 5) with
  accessFlags := 16433
  interfaces := #[]
  cf := some (fileOf pool6 1 #[.nestHost 65] #[] 16433 29 #[] #[{ accessFlags := 16409, nameIndex := 5, descriptorIndex := 6, attributes := #[] }, { accessFlags := 16409, nameIndex := 9, descriptorIndex := 6, attributes := #[] }, { accessFlags := 16409, nameIndex := 12, descriptorIndex := 6, attributes := #[] }, { accessFlags := 16409, nameIndex := 15, descriptorIndex := 6, attributes := #[] }, { accessFlags := 16409, nameIndex := 18, descriptorIndex := 6, attributes := #[] }, { accessFlags := 26, nameIndex := 110, descriptorIndex := 111, attributes := #[] }, { accessFlags := 18, nameIndex := 50, descriptorIndex := 51, attributes := #[] }, { accessFlags := 18, nameIndex := 54, descriptorIndex := 55, attributes := #[] }, { accessFlags := 4122, nameIndex := 21, descriptorIndex := 22, attributes := #[] }])
  fields := #[{ name := "LONE_LOW_SURROGATE", type := (.object "com/example/pair16/pair16/Utf16Fault$Kind"), accessFlags := 16409, slot := 0, constantValue := 0 }, { name := "UNPAIRED_HIGH_SURROGATE", type := (.object "com/example/pair16/pair16/Utf16Fault$Kind"), accessFlags := 16409, slot := 1, constantValue := 0 }, { name := "HIGH_SURROGATE_AT_END", type := (.object "com/example/pair16/pair16/Utf16Fault$Kind"), accessFlags := 16409, slot := 2, constantValue := 0 }, { name := "ODD_TRAILING_BYTE", type := (.object "com/example/pair16/pair16/Utf16Fault$Kind"), accessFlags := 16409, slot := 3, constantValue := 0 }, { name := "REVERSED_BYTE_ORDER_MARK", type := (.object "com/example/pair16/pair16/Utf16Fault$Kind"), accessFlags := 16409, slot := 4, constantValue := 0 }, { name := "DIGIT", type := .char, accessFlags := 26, slot := 5, constantValue := 0 }, { name := "description", type := (.object "java/lang/String"), accessFlags := 18, slot := 3, constantValue := 0 }, { name := "digits", type := .int, accessFlags := 18, slot := 4, constantValue := 0 }, { name := "$VALUES", type := (.array (.object "com/example/pair16/pair16/Utf16Fault$Kind")), accessFlags := 4122, slot := 6, constantValue := 0 }]
  methods := #[]
  instanceTypes := #[(.object "java/lang/String"), .int, .int, (.object "java/lang/String"), .int]
  staticTypes := #[(.object "com/example/pair16/pair16/Utf16Fault$Kind"), (.object "com/example/pair16/pair16/Utf16Fault$Kind"), (.object "com/example/pair16/pair16/Utf16Fault$Kind"), (.object "com/example/pair16/pair16/Utf16Fault$Kind"), (.object "com/example/pair16/pair16/Utf16Fault$Kind"), .char, (.array (.object "com/example/pair16/pair16/Utf16Fault$Kind"))]
  resolved := Array.replicate 133 none
  statics := some 0 }

def pool7 : Array CpInfo := pool [(1, .methodref 2 3), (0, .class_ 4), (0, .nameAndType 5 6), (0, u "java/lang/Object"), (0, u "<init>"), (0, u "()V"), (0, .string 8), (0, u "kind"), (0, .methodref 10 11), (0, .class_ 12), (0, .nameAndType 13 14), (0, u "java/util/Objects"), (0, u "requireNonNull"), (0, u "(Ljava/lang/Object;Ljava/lang/String;)Ljava/lang/Object;"), (0, .class_ 16), (0, u "com/example/pair16/pair16/Utf16Fault$Kind"), (0, .fieldref 18 19), (0, .class_ 20), (0, .nameAndType 8 21), (0, u "com/example/pair16/pair16/Utf16Fault"), (0, u "Lcom/example/pair16/pair16/Utf16Fault$Kind;"), (0, .fieldref 18 23), (0, .nameAndType 24 25), (0, u "offset"), (0, u "J"), (0, .fieldref 18 27), (0, .nameAndType 28 29), (0, u "value"), (0, u "I"), (55, u "HEX"), (0, u "Ljava/util/HexFormat;"), (0, .class_ 88), (0, u "java/io/Serializable"), (0, u "serialVersionUID"), (3, u "(Lcom/example/pair16/pair16/Utf16Fault$Kind;JI)V"), (4, u "equals"), (0, u "(Ljava/lang/Object;)Z")] 22

def k7c0 : Code := { maxStack := 3, maxLocals := 5, code := prog_46_method_1_code, exceptionTable := #[], attributes := #[] }
def k7m0 : Method := { name := "<init>", desc := "(Lcom/example/pair16/pair16/Utf16Fault$Kind;JI)V", sig := { parameters := [(.object "com/example/pair16/pair16/Utf16Fault$Kind"), .long, .int], returnType := none }, accessFlags := 1, code := some k7c0 }
def k7c1 : Code := { maxStack := 4, maxLocals := 3, code := prog_46_method_6_code, exceptionTable := #[], attributes := #[] }
def k7m1 : Method := { name := "equals", desc := "(Ljava/lang/Object;)Z", sig := { parameters := [(.object "java/lang/Object")], returnType := some .boolean }, accessFlags := 1, code := some k7c1 }
/-- com/example/pair16/pair16/Utf16Fault -/
def k7 : Class := { plain "com/example/pair16/pair16/Utf16Fault" (some 0) with
  accessFlags := 33
  interfaces := #[4]
  cf := some (fileOf pool7 18 #[.nestMembers #[15]] #[{ accessFlags := 1, nameIndex := 5, descriptorIndex := 93, attributes := #[] }, { accessFlags := 1, nameIndex := 98, descriptorIndex := 99, attributes := #[] }] 33 2 #[87] #[{ accessFlags := 26, nameIndex := 89, descriptorIndex := 25, attributes := #[] }, { accessFlags := 26, nameIndex := 85, descriptorIndex := 86, attributes := #[] }, { accessFlags := 18, nameIndex := 8, descriptorIndex := 21, attributes := #[] }, { accessFlags := 18, nameIndex := 24, descriptorIndex := 25, attributes := #[] }, { accessFlags := 18, nameIndex := 28, descriptorIndex := 29, attributes := #[] }])
  fields := #[{ name := "serialVersionUID", type := .long, accessFlags := 26, slot := 0, constantValue := 0 }, { name := "HEX", type := (.object "java/util/HexFormat"), accessFlags := 26, slot := 1, constantValue := 0 }, { name := "kind", type := (.object "com/example/pair16/pair16/Utf16Fault$Kind"), accessFlags := 18, slot := 0, constantValue := 0 }, { name := "offset", type := .long, accessFlags := 18, slot := 1, constantValue := 0 }, { name := "value", type := .int, accessFlags := 18, slot := 2, constantValue := 0 }]
  methods := #[k7m0, k7m1]
  instanceTypes := #[(.object "com/example/pair16/pair16/Utf16Fault$Kind"), .long, .int]
  staticTypes := #[.long, (.object "java/util/HexFormat")]
  resolved := Array.replicate 122 none
  statics := none }

def pool8 : Array CpInfo := pool [(2, .class_ 4), (1, u "java/lang/CharSequence"), (42, .class_ 48), (0, u "java/lang/CharSequence$1CodePointIterator"), (10, .class_ 60), (0, u "java/lang/CharSequence$1CharIterator"), (5, .class_ 67), (0, u "java/lang/Object")] 63

/-- java/lang/CharSequence -/
def k8 : Class := { plain "java/lang/CharSequence" (some 0) with
  accessFlags := 1537
  interfaces := #[]
  cf := some (fileOf pool8 2 #[.nestMembers #[47, 59]] #[] 1537 66 #[] #[])
  fields := #[]
  methods := #[]
  instanceTypes := #[]
  staticTypes := #[]
  resolved := Array.replicate 131 none
  statics := none }

def pool9 : Array CpInfo := pool [(1, .class_ 2), (0, u "java/lang/constant/ConstantDesc"), (0, .class_ 4), (0, u "java/lang/Object")] 32

/-- java/lang/constant/ConstantDesc -/
def k9 : Class := { plain "java/lang/constant/ConstantDesc" (some 0) with
  accessFlags := 1537
  interfaces := #[]
  cf := some (fileOf pool9 1 #[] #[] 1537 3 #[] #[])
  fields := #[]
  methods := #[]
  instanceTypes := #[]
  staticTypes := #[]
  resolved := Array.replicate 37 none
  statics := none }

def pool10 : Array CpInfo := pool [(2, .class_ 4), (1, u "java/lang/Object"), (0, u "<init>"), (0, u "()V"), (3, .class_ 12), (1, u "java/lang/String"), (0, u "value"), (0, u "[B"), (2, u "coder"), (0, u "B"), (2, u "hash"), (0, u "I"), (2, u "hashIsZero"), (0, u "Z"), (13, u "COMPACT_STRINGS"), (534, .class_ 576), (0, u "java/lang/CharSequence"), (22, u "CASE_INSENSITIVE_ORDER"), (0, u "Ljava/util/Comparator;"), (500, u "serialPersistentFields"), (0, u "[Ljava/io/ObjectStreamField;"), (0, .class_ 1104), (0, u "java/lang/String$CaseInsensitiveComparator"), (1, .class_ 1107), (0, u "java/io/Serializable"), (0, .class_ 1109), (0, u "java/lang/Comparable"), (0, .class_ 1111), (0, u "java/lang/constant/Constable"), (0, .class_ 1113), (0, u "java/lang/constant/ConstantDesc"), (2, u "serialVersionUID"), (0, u "J"), (3, u "REPL"), (0, u "C"), (2, u "LATIN1"), (1, u "UTF16")] 323

def k10m0 : Method := { name := "<init>", desc := "()V", sig := { parameters := [], returnType := none }, accessFlags := 1, code := none }
/-- java/lang/String -/
def k10 : Class := { plain "java/lang/String" (some 0) with
  accessFlags := 49
  interfaces := #[4, 3, 8, 2, 9]
  cf := some (fileOf pool10 10 #[.nestMembers #[1103]] #[{ accessFlags := 1, nameIndex := 5, descriptorIndex := 6, attributes := #[] }] 49 2 #[1106, 1108, 575, 1110, 1112] #[{ accessFlags := 18, nameIndex := 13, descriptorIndex := 14, attributes := #[] }, { accessFlags := 18, nameIndex := 17, descriptorIndex := 18, attributes := #[] }, { accessFlags := 2, nameIndex := 21, descriptorIndex := 22, attributes := #[] }, { accessFlags := 2, nameIndex := 25, descriptorIndex := 26, attributes := #[] }, { accessFlags := 26, nameIndex := 1116, descriptorIndex := 1117, attributes := #[] }, { accessFlags := 24, nameIndex := 40, descriptorIndex := 26, attributes := #[] }, { accessFlags := 26, nameIndex := 1101, descriptorIndex := 1102, attributes := #[] }, { accessFlags := 26, nameIndex := 1121, descriptorIndex := 1122, attributes := #[] }, { accessFlags := 25, nameIndex := 599, descriptorIndex := 600, attributes := #[] }, { accessFlags := 24, nameIndex := 1125, descriptorIndex := 18, attributes := #[] }, { accessFlags := 24, nameIndex := 1127, descriptorIndex := 18, attributes := #[] }])
  fields := #[{ name := "value", type := (.array .byte), accessFlags := 18, slot := 0, constantValue := 0 }, { name := "coder", type := .byte, accessFlags := 18, slot := 1, constantValue := 0 }, { name := "hash", type := .int, accessFlags := 2, slot := 2, constantValue := 0 }, { name := "hashIsZero", type := .boolean, accessFlags := 2, slot := 3, constantValue := 0 }, { name := "serialVersionUID", type := .long, accessFlags := 26, slot := 0, constantValue := 0 }, { name := "COMPACT_STRINGS", type := .boolean, accessFlags := 24, slot := 1, constantValue := 0 }, { name := "serialPersistentFields", type := (.array (.object "java/io/ObjectStreamField")), accessFlags := 26, slot := 2, constantValue := 0 }, { name := "REPL", type := .char, accessFlags := 26, slot := 3, constantValue := 0 }, { name := "CASE_INSENSITIVE_ORDER", type := (.object "java/util/Comparator"), accessFlags := 25, slot := 4, constantValue := 0 }, { name := "LATIN1", type := .byte, accessFlags := 24, slot := 5, constantValue := 0 }, { name := "UTF16", type := .byte, accessFlags := 24, slot := 6, constantValue := 0 }]
  methods := #[k10m0]
  instanceTypes := #[(.array .byte), .byte, .int, .boolean]
  staticTypes := #[.long, .boolean, (.array (.object "java/io/ObjectStreamField")), .char, (.object "java/util/Comparator"), .byte, .byte]
  resolved := Array.replicate 1451 none
  statics := none }

def pool11 : Array CpInfo := pool [(2, .class_ 4), (1, u "java/lang/Object"), (0, u "<init>"), (0, u "()V"), (35, .class_ 44), (1, u "java/util/Objects"), (0, u "requireNonNull"), (48, u "(Ljava/lang/Object;Ljava/lang/String;)Ljava/lang/Object;")] 89

def k11m0 : Method := { name := "<init>", desc := "()V", sig := { parameters := [], returnType := none }, accessFlags := 2, code := none }
def k11c1 : Code := { maxStack := 3, maxLocals := 2, code := jdk_31_method_11_code, exceptionTable := #[], attributes := #[] }
def k11m1 : Method := { name := "requireNonNull", desc := "(Ljava/lang/Object;Ljava/lang/String;)Ljava/lang/Object;", sig := { parameters := [(.object "java/lang/Object"), (.object "java/lang/String")], returnType := some (.object "java/lang/Object") }, accessFlags := 9, code := some k11c1 }
/-- java/util/Objects -/
def k11 : Class := { plain "java/util/Objects" (some 0) with
  accessFlags := 49
  interfaces := #[]
  cf := some (fileOf pool11 42 #[] #[{ accessFlags := 2, nameIndex := 5, descriptorIndex := 6, attributes := #[] }, { accessFlags := 9, nameIndex := 45, descriptorIndex := 94, attributes := #[] }] 49 2 #[] #[])
  fields := #[]
  methods := #[k11m0, k11m1]
  instanceTypes := #[]
  staticTypes := #[]
  resolved := Array.replicate 184 none
  statics := none }

def pool12 : Array CpInfo := pool [(1, .methodref 2 3), (0, .class_ 4), (0, .nameAndType 5 6), (0, u "java/lang/Object"), (0, u "<init>"), (0, u "()V"), (1, .class_ 10), (1, u "java/lang/Number"), (2, .class_ 14), (0, u "java/io/Serializable"), (0, u "serialVersionUID"), (0, u "J")] 20

def k12c0 : Code := { maxStack := 1, maxLocals := 1, code := jdk_18_method_1_code, exceptionTable := #[], attributes := #[] }
def k12m0 : Method := { name := "<init>", desc := "()V", sig := { parameters := [], returnType := none }, accessFlags := 1, code := some k12c0 }
/-- java/lang/Number -/
def k12 : Class := { plain "java/lang/Number" (some 0) with
  accessFlags := 1057
  interfaces := #[4]
  cf := some (fileOf pool12 8 #[] #[{ accessFlags := 1, nameIndex := 5, descriptorIndex := 6, attributes := #[] }] 1057 2 #[13] #[{ accessFlags := 26, nameIndex := 15, descriptorIndex := 16, attributes := #[] }])
  fields := #[{ name := "serialVersionUID", type := .long, accessFlags := 26, slot := 0, constantValue := 0 }]
  methods := #[k12m0]
  instanceTypes := #[]
  staticTypes := #[.long]
  resolved := Array.replicate 37 none
  statics := none }

def pool13 : Array CpInfo := pool [(1, .class_ 2), (0, u "java/lang/Integer"), (16, u "digits"), (0, u "[C"), (46, u "<init>"), (17, u "DigitOnes"), (0, u "[B"), (2, u "DigitTens"), (10, .nameAndType 67 101), (0, u "()V"), (85, u "valueOf"), (0, u "(I)Ljava/lang/Integer;"), (0, .class_ 190), (0, u "java/lang/Integer$IntegerCache"), (0, .fieldref 189 192), (0, .nameAndType 193 194), (0, u "high"), (0, u "I"), (0, .fieldref 189 196), (0, .nameAndType 197 198), (0, u "cache"), (0, u "[Ljava/lang/Integer;"), (0, .methodref 1 200), (0, .nameAndType 67 201), (0, u "(I)V"), (0, .methodref 203 100), (0, .class_ 204), (0, u "java/lang/Number"), (0, .fieldref 1 206), (0, .nameAndType 207 194), (0, u "value"), (94, u "TYPE"), (0, u "Ljava/lang/Class;"), (0, .class_ 305), (0, u "java/lang/Comparable"), (0, .class_ 307), (0, u "java/lang/constant/Constable"), (0, .class_ 309), (0, u "java/lang/constant/ConstantDesc"), (0, u "MIN_VALUE"), (1, u "MAX_VALUE"), (3, u "SIZE"), (1, u "BYTES"), (1, u "serialVersionUID"), (0, u "J")] 131

def k13c0 : Code := { maxStack := 3, maxLocals := 1, code := jdk_33_method_22_code, exceptionTable := #[], attributes := #[] }
def k13m0 : Method := { name := "valueOf", desc := "(I)Ljava/lang/Integer;", sig := { parameters := [.int], returnType := some (.object "java/lang/Integer") }, accessFlags := 9, code := some k13c0 }
def k13c1 : Code := { maxStack := 2, maxLocals := 2, code := jdk_33_method_23_code, exceptionTable := #[], attributes := #[] }
def k13m1 : Method := { name := "<init>", desc := "(I)V", sig := { parameters := [.int], returnType := none }, accessFlags := 1, code := some k13c1 }
/-- java/lang/Integer -/
def k13 : Class := { plain "java/lang/Integer" (some 12) with
  accessFlags := 49
  interfaces := #[3, 2, 9]
  cf := some (fileOf pool13 1 #[.nestMembers #[189]] #[{ accessFlags := 9, nameIndex := 187, descriptorIndex := 188, attributes := #[] }, { accessFlags := 1, nameIndex := 67, descriptorIndex := 201, attributes := #[] }] 49 203 #[304, 306, 308] #[{ accessFlags := 25, nameIndex := 310, descriptorIndex := 194, attributes := #[] }, { accessFlags := 25, nameIndex := 312, descriptorIndex := 194, attributes := #[] }, { accessFlags := 25, nameIndex := 302, descriptorIndex := 303, attributes := #[] }, { accessFlags := 24, nameIndex := 19, descriptorIndex := 20, attributes := #[] }, { accessFlags := 24, nameIndex := 89, descriptorIndex := 86, attributes := #[] }, { accessFlags := 24, nameIndex := 85, descriptorIndex := 86, attributes := #[] }, { accessFlags := 18, nameIndex := 207, descriptorIndex := 194, attributes := #[] }, { accessFlags := 25, nameIndex := 316, descriptorIndex := 194, attributes := #[] }, { accessFlags := 25, nameIndex := 318, descriptorIndex := 194, attributes := #[] }, { accessFlags := 26, nameIndex := 320, descriptorIndex := 321, attributes := #[] }])
  fields := #[{ name := "MIN_VALUE", type := .int, accessFlags := 25, slot := 0, constantValue := 0 }, { name := "MAX_VALUE", type := .int, accessFlags := 25, slot := 1, constantValue := 0 }, { name := "TYPE", type := (.object "java/lang/Class"), accessFlags := 25, slot := 2, constantValue := 0 }, { name := "digits", type := (.array .char), accessFlags := 24, slot := 3, constantValue := 0 }, { name := "DigitTens", type := (.array .byte), accessFlags := 24, slot := 4, constantValue := 0 }, { name := "DigitOnes", type := (.array .byte), accessFlags := 24, slot := 5, constantValue := 0 }, { name := "value", type := .int, accessFlags := 18, slot := 0, constantValue := 0 }, { name := "SIZE", type := .int, accessFlags := 25, slot := 6, constantValue := 0 }, { name := "BYTES", type := .int, accessFlags := 25, slot := 7, constantValue := 0 }, { name := "serialVersionUID", type := .long, accessFlags := 26, slot := 8, constantValue := 0 }]
  methods := #[k13m0, k13m1]
  instanceTypes := #[.int]
  staticTypes := #[.int, .int, (.object "java/lang/Class"), (.array .char), (.array .byte), (.array .byte), .int, .int, .long]
  resolved := Array.replicate 453 none
  statics := none }

def pool14 : Array CpInfo := pool [(2, .class_ 4), (1, u "java/lang/Object"), (0, u "<init>"), (0, u "()V"), (0, .class_ 8), (0, u "java/lang/Integer"), (7, .class_ 18), (1, u "java/lang/Integer$IntegerCache"), (0, u "$assertionsDisabled"), (0, u "Z"), (26, u "high"), (0, u "I"), (8, u "archivedCache"), (0, u "[Ljava/lang/Integer;"), (12, u "cache"), (0, u "low")] 27

def k14m0 : Method := { name := "<init>", desc := "()V", sig := { parameters := [], returnType := none }, accessFlags := 2, code := none }
/-- java/lang/Integer$IntegerCache -/
def k14 : Class := { plain "java/lang/Integer$IntegerCache" (some 0) with
  accessFlags := 48
  interfaces := #[]
  cf := some (fileOf pool14 16 #[.nestHost 7] #[{ accessFlags := 2, nameIndex := 5, descriptorIndex := 6, attributes := #[] }] 48 2 #[] #[{ accessFlags := 24, nameIndex := 72, descriptorIndex := 48, attributes := #[] }, { accessFlags := 24, nameIndex := 47, descriptorIndex := 48, attributes := #[] }, { accessFlags := 24, nameIndex := 71, descriptorIndex := 58, attributes := #[] }, { accessFlags := 8, nameIndex := 57, descriptorIndex := 58, attributes := #[] }, { accessFlags := 4120, nameIndex := 19, descriptorIndex := 20, attributes := #[] }])
  fields := #[{ name := "low", type := .int, accessFlags := 24, slot := 0, constantValue := 0 }, { name := "high", type := .int, accessFlags := 24, slot := 1, constantValue := 0 }, { name := "cache", type := (.array (.object "java/lang/Integer")), accessFlags := 24, slot := 2, constantValue := 0 }, { name := "archivedCache", type := (.array (.object "java/lang/Integer")), accessFlags := 8, slot := 3, constantValue := 0 }, { name := "$assertionsDisabled", type := .boolean, accessFlags := 4120, slot := 4, constantValue := 0 }]
  methods := #[k14m0]
  instanceTypes := #[]
  staticTypes := #[.int, .int, (.array (.object "java/lang/Integer")), (.array (.object "java/lang/Integer")), .boolean]
  resolved := Array.replicate 100 none
  statics := some 1 }

def pool15 : Array CpInfo := pool [(1, u "java/lang/Cloneable"), (0, .class_ 1), (0, u "java/lang/Object"), (0, .class_ 3)] 3

/-- java/lang/Cloneable -/
def k15 : Class := { plain "java/lang/Cloneable" (some 0) with
  accessFlags := 1537
  interfaces := #[]
  cf := some (fileOf pool15 2 #[] #[] 1537 4 #[] #[])
  fields := #[]
  methods := #[]
  instanceTypes := #[]
  staticTypes := #[]
  resolved := Array.replicate 8 none
  statics := none }

/-- the primitive byte -/
def k16 : Class := { plain "byte" none with kind := .primitive 'B', accessFlags := 0x411 }
/-- [B -/
def k17 : Class := { plain "[B" (some 0) with kind := .array 16 .byte, interfaces := #[15, 4], accessFlags := 1041 }

/-- the primitive int -/
def k18 : Class := { plain "int" none with kind := .primitive 'I', accessFlags := 0x411 }
/-- [I -/
def k19 : Class := { plain "[I" (some 0) with kind := .array 18 .int, interfaces := #[15, 4], accessFlags := 1041 }

/-- [Ljava/lang/Integer; -/
def k20 : Class := { plain "[Ljava/lang/Integer;" (some 0) with kind := .array 13 (.object "java/lang/Integer"), interfaces := #[15, 4], accessFlags := 1041 }

def heap : Heap := #[{ cls := 6, slots := #[.ref 3, .ref 7, .ref 4, .ref 6, .ref 5, .int 0, .null], vm := .statics 6 },
  { cls := 14, slots := #[.int 0, .int 127, .ref 2, .null, .int 0], vm := .statics 14 },
  { cls := 20, slots := #[.ref 8, .ref 9, .ref 10, .ref 11, .ref 12, .ref 13, .ref 14, .ref 15, .ref 16, .ref 17, .ref 18, .ref 19, .ref 20, .ref 21, .ref 22, .ref 23, .ref 24, .ref 25, .ref 26, .ref 27, .ref 28, .ref 29, .ref 30, .ref 31, .ref 32, .ref 33, .ref 34, .ref 35, .ref 36, .ref 37, .ref 38, .ref 39, .ref 40, .ref 41, .ref 42, .ref 43, .ref 44, .ref 45, .ref 46, .ref 47, .ref 48, .ref 49, .ref 50, .ref 51, .ref 52, .ref 53, .ref 54, .ref 55, .ref 56, .ref 57, .ref 58, .ref 59, .ref 60, .ref 61, .ref 62, .ref 63, .ref 64, .ref 65, .ref 66, .ref 67, .ref 68, .ref 69, .ref 70, .ref 71, .ref 72, .ref 73, .ref 74, .ref 75, .ref 76, .ref 77, .ref 78, .ref 79, .ref 80, .ref 81, .ref 82, .ref 83, .ref 84, .ref 85, .ref 86, .ref 87, .ref 88, .ref 89, .ref 90, .ref 91, .ref 92, .ref 93, .ref 94, .ref 95, .ref 96, .ref 97, .ref 98, .ref 99, .ref 100, .ref 101, .ref 102, .ref 103, .ref 104, .ref 105, .ref 106, .ref 107, .ref 108, .ref 109, .ref 110, .ref 111, .ref 112, .ref 113, .ref 114, .ref 115, .ref 116, .ref 117, .ref 118, .ref 119, .ref 120, .ref 121, .ref 122, .ref 123, .ref 124, .ref 125, .ref 126, .ref 127, .ref 128, .ref 129, .ref 130, .ref 131, .ref 132, .ref 133, .ref 134, .ref 135, .ref 136, .ref 137, .ref 138, .ref 139, .ref 140, .ref 141, .ref 142, .ref 143, .ref 144, .ref 145, .ref 146, .ref 147, .ref 148, .ref 149, .ref 150, .ref 151, .ref 152, .ref 153, .ref 154, .ref 155, .ref 156, .ref 157, .ref 158, .ref 159, .ref 160, .ref 161, .ref 162, .ref 163, .ref 164, .ref 165, .ref 166, .ref 167, .ref 168, .ref 169, .ref 170, .ref 171, .ref 172, .ref 173, .ref 174, .ref 175, .ref 176, .ref 177, .ref 178, .ref 179, .ref 180, .ref 181, .ref 182, .ref 183, .ref 184, .ref 185, .ref 186, .ref 187, .ref 188, .ref 189, .ref 190, .ref 191, .ref 192, .ref 193, .ref 194, .ref 195, .ref 196, .ref 197, .ref 198, .ref 199, .ref 200, .ref 201, .ref 202, .ref 203, .ref 204, .ref 205, .ref 206, .ref 207, .ref 208, .ref 209, .ref 210, .ref 211, .ref 212, .ref 213, .ref 214, .ref 215, .ref 216, .ref 217, .ref 218, .ref 219, .ref 220, .ref 221, .ref 222, .ref 223, .ref 224, .ref 225, .ref 226, .ref 227, .ref 228, .ref 229, .ref 230, .ref 231, .ref 232, .ref 233, .ref 234, .ref 235, .ref 236, .ref 237, .ref 238, .ref 239, .ref 240, .ref 241, .ref 242, .ref 243, .ref 244, .ref 245, .ref 246, .ref 247, .ref 248, .ref 249, .ref 250, .ref 251, .ref 252, .ref 253, .ref 254, .ref 255, .ref 256, .ref 257, .ref 258, .ref 259, .ref 260, .ref 261, .ref 262, .ref 263], vm := .none },
  { cls := 6, slots := #[.null, .int 0, .int 0, .null, .int 0], vm := .none },
  { cls := 6, slots := #[.null, .int 2, .int 0, .null, .int 0], vm := .none },
  { cls := 6, slots := #[.null, .int 4, .int 0, .null, .int 0], vm := .none },
  { cls := 6, slots := #[.null, .int 3, .int 0, .null, .int 0], vm := .none },
  { cls := 6, slots := #[.null, .int 1, .int 0, .null, .int 0], vm := .none },
  { cls := 13, slots := #[.int (-128)], vm := .none },
  { cls := 13, slots := #[.int (-127)], vm := .none },
  { cls := 13, slots := #[.int (-126)], vm := .none },
  { cls := 13, slots := #[.int (-125)], vm := .none },
  { cls := 13, slots := #[.int (-124)], vm := .none },
  { cls := 13, slots := #[.int (-123)], vm := .none },
  { cls := 13, slots := #[.int (-122)], vm := .none },
  { cls := 13, slots := #[.int (-121)], vm := .none },
  { cls := 13, slots := #[.int (-120)], vm := .none },
  { cls := 13, slots := #[.int (-119)], vm := .none },
  { cls := 13, slots := #[.int (-118)], vm := .none },
  { cls := 13, slots := #[.int (-117)], vm := .none },
  { cls := 13, slots := #[.int (-116)], vm := .none },
  { cls := 13, slots := #[.int (-115)], vm := .none },
  { cls := 13, slots := #[.int (-114)], vm := .none },
  { cls := 13, slots := #[.int (-113)], vm := .none },
  { cls := 13, slots := #[.int (-112)], vm := .none },
  { cls := 13, slots := #[.int (-111)], vm := .none },
  { cls := 13, slots := #[.int (-110)], vm := .none },
  { cls := 13, slots := #[.int (-109)], vm := .none },
  { cls := 13, slots := #[.int (-108)], vm := .none },
  { cls := 13, slots := #[.int (-107)], vm := .none },
  { cls := 13, slots := #[.int (-106)], vm := .none },
  { cls := 13, slots := #[.int (-105)], vm := .none },
  { cls := 13, slots := #[.int (-104)], vm := .none },
  { cls := 13, slots := #[.int (-103)], vm := .none },
  { cls := 13, slots := #[.int (-102)], vm := .none },
  { cls := 13, slots := #[.int (-101)], vm := .none },
  { cls := 13, slots := #[.int (-100)], vm := .none },
  { cls := 13, slots := #[.int (-99)], vm := .none },
  { cls := 13, slots := #[.int (-98)], vm := .none },
  { cls := 13, slots := #[.int (-97)], vm := .none },
  { cls := 13, slots := #[.int (-96)], vm := .none },
  { cls := 13, slots := #[.int (-95)], vm := .none },
  { cls := 13, slots := #[.int (-94)], vm := .none },
  { cls := 13, slots := #[.int (-93)], vm := .none },
  { cls := 13, slots := #[.int (-92)], vm := .none },
  { cls := 13, slots := #[.int (-91)], vm := .none },
  { cls := 13, slots := #[.int (-90)], vm := .none },
  { cls := 13, slots := #[.int (-89)], vm := .none },
  { cls := 13, slots := #[.int (-88)], vm := .none },
  { cls := 13, slots := #[.int (-87)], vm := .none },
  { cls := 13, slots := #[.int (-86)], vm := .none },
  { cls := 13, slots := #[.int (-85)], vm := .none },
  { cls := 13, slots := #[.int (-84)], vm := .none },
  { cls := 13, slots := #[.int (-83)], vm := .none },
  { cls := 13, slots := #[.int (-82)], vm := .none },
  { cls := 13, slots := #[.int (-81)], vm := .none },
  { cls := 13, slots := #[.int (-80)], vm := .none },
  { cls := 13, slots := #[.int (-79)], vm := .none },
  { cls := 13, slots := #[.int (-78)], vm := .none },
  { cls := 13, slots := #[.int (-77)], vm := .none },
  { cls := 13, slots := #[.int (-76)], vm := .none },
  { cls := 13, slots := #[.int (-75)], vm := .none },
  { cls := 13, slots := #[.int (-74)], vm := .none },
  { cls := 13, slots := #[.int (-73)], vm := .none },
  { cls := 13, slots := #[.int (-72)], vm := .none },
  { cls := 13, slots := #[.int (-71)], vm := .none },
  { cls := 13, slots := #[.int (-70)], vm := .none },
  { cls := 13, slots := #[.int (-69)], vm := .none },
  { cls := 13, slots := #[.int (-68)], vm := .none },
  { cls := 13, slots := #[.int (-67)], vm := .none },
  { cls := 13, slots := #[.int (-66)], vm := .none },
  { cls := 13, slots := #[.int (-65)], vm := .none },
  { cls := 13, slots := #[.int (-64)], vm := .none },
  { cls := 13, slots := #[.int (-63)], vm := .none },
  { cls := 13, slots := #[.int (-62)], vm := .none },
  { cls := 13, slots := #[.int (-61)], vm := .none },
  { cls := 13, slots := #[.int (-60)], vm := .none },
  { cls := 13, slots := #[.int (-59)], vm := .none },
  { cls := 13, slots := #[.int (-58)], vm := .none },
  { cls := 13, slots := #[.int (-57)], vm := .none },
  { cls := 13, slots := #[.int (-56)], vm := .none },
  { cls := 13, slots := #[.int (-55)], vm := .none },
  { cls := 13, slots := #[.int (-54)], vm := .none },
  { cls := 13, slots := #[.int (-53)], vm := .none },
  { cls := 13, slots := #[.int (-52)], vm := .none },
  { cls := 13, slots := #[.int (-51)], vm := .none },
  { cls := 13, slots := #[.int (-50)], vm := .none },
  { cls := 13, slots := #[.int (-49)], vm := .none },
  { cls := 13, slots := #[.int (-48)], vm := .none },
  { cls := 13, slots := #[.int (-47)], vm := .none },
  { cls := 13, slots := #[.int (-46)], vm := .none },
  { cls := 13, slots := #[.int (-45)], vm := .none },
  { cls := 13, slots := #[.int (-44)], vm := .none },
  { cls := 13, slots := #[.int (-43)], vm := .none },
  { cls := 13, slots := #[.int (-42)], vm := .none },
  { cls := 13, slots := #[.int (-41)], vm := .none },
  { cls := 13, slots := #[.int (-40)], vm := .none },
  { cls := 13, slots := #[.int (-39)], vm := .none },
  { cls := 13, slots := #[.int (-38)], vm := .none },
  { cls := 13, slots := #[.int (-37)], vm := .none },
  { cls := 13, slots := #[.int (-36)], vm := .none },
  { cls := 13, slots := #[.int (-35)], vm := .none },
  { cls := 13, slots := #[.int (-34)], vm := .none },
  { cls := 13, slots := #[.int (-33)], vm := .none },
  { cls := 13, slots := #[.int (-32)], vm := .none },
  { cls := 13, slots := #[.int (-31)], vm := .none },
  { cls := 13, slots := #[.int (-30)], vm := .none },
  { cls := 13, slots := #[.int (-29)], vm := .none },
  { cls := 13, slots := #[.int (-28)], vm := .none },
  { cls := 13, slots := #[.int (-27)], vm := .none },
  { cls := 13, slots := #[.int (-26)], vm := .none },
  { cls := 13, slots := #[.int (-25)], vm := .none },
  { cls := 13, slots := #[.int (-24)], vm := .none },
  { cls := 13, slots := #[.int (-23)], vm := .none },
  { cls := 13, slots := #[.int (-22)], vm := .none },
  { cls := 13, slots := #[.int (-21)], vm := .none },
  { cls := 13, slots := #[.int (-20)], vm := .none },
  { cls := 13, slots := #[.int (-19)], vm := .none },
  { cls := 13, slots := #[.int (-18)], vm := .none },
  { cls := 13, slots := #[.int (-17)], vm := .none },
  { cls := 13, slots := #[.int (-16)], vm := .none },
  { cls := 13, slots := #[.int (-15)], vm := .none },
  { cls := 13, slots := #[.int (-14)], vm := .none },
  { cls := 13, slots := #[.int (-13)], vm := .none },
  { cls := 13, slots := #[.int (-12)], vm := .none },
  { cls := 13, slots := #[.int (-11)], vm := .none },
  { cls := 13, slots := #[.int (-10)], vm := .none },
  { cls := 13, slots := #[.int (-9)], vm := .none },
  { cls := 13, slots := #[.int (-8)], vm := .none },
  { cls := 13, slots := #[.int (-7)], vm := .none },
  { cls := 13, slots := #[.int (-6)], vm := .none },
  { cls := 13, slots := #[.int (-5)], vm := .none },
  { cls := 13, slots := #[.int (-4)], vm := .none },
  { cls := 13, slots := #[.int (-3)], vm := .none },
  { cls := 13, slots := #[.int (-2)], vm := .none },
  { cls := 13, slots := #[.int (-1)], vm := .none },
  { cls := 13, slots := #[.int (0)], vm := .none },
  { cls := 13, slots := #[.int (1)], vm := .none },
  { cls := 13, slots := #[.int (2)], vm := .none },
  { cls := 13, slots := #[.int (3)], vm := .none },
  { cls := 13, slots := #[.int (4)], vm := .none },
  { cls := 13, slots := #[.int (5)], vm := .none },
  { cls := 13, slots := #[.int (6)], vm := .none },
  { cls := 13, slots := #[.int (7)], vm := .none },
  { cls := 13, slots := #[.int (8)], vm := .none },
  { cls := 13, slots := #[.int (9)], vm := .none },
  { cls := 13, slots := #[.int (10)], vm := .none },
  { cls := 13, slots := #[.int (11)], vm := .none },
  { cls := 13, slots := #[.int (12)], vm := .none },
  { cls := 13, slots := #[.int (13)], vm := .none },
  { cls := 13, slots := #[.int (14)], vm := .none },
  { cls := 13, slots := #[.int (15)], vm := .none },
  { cls := 13, slots := #[.int (16)], vm := .none },
  { cls := 13, slots := #[.int (17)], vm := .none },
  { cls := 13, slots := #[.int (18)], vm := .none },
  { cls := 13, slots := #[.int (19)], vm := .none },
  { cls := 13, slots := #[.int (20)], vm := .none },
  { cls := 13, slots := #[.int (21)], vm := .none },
  { cls := 13, slots := #[.int (22)], vm := .none },
  { cls := 13, slots := #[.int (23)], vm := .none },
  { cls := 13, slots := #[.int (24)], vm := .none },
  { cls := 13, slots := #[.int (25)], vm := .none },
  { cls := 13, slots := #[.int (26)], vm := .none },
  { cls := 13, slots := #[.int (27)], vm := .none },
  { cls := 13, slots := #[.int (28)], vm := .none },
  { cls := 13, slots := #[.int (29)], vm := .none },
  { cls := 13, slots := #[.int (30)], vm := .none },
  { cls := 13, slots := #[.int (31)], vm := .none },
  { cls := 13, slots := #[.int (32)], vm := .none },
  { cls := 13, slots := #[.int (33)], vm := .none },
  { cls := 13, slots := #[.int (34)], vm := .none },
  { cls := 13, slots := #[.int (35)], vm := .none },
  { cls := 13, slots := #[.int (36)], vm := .none },
  { cls := 13, slots := #[.int (37)], vm := .none },
  { cls := 13, slots := #[.int (38)], vm := .none },
  { cls := 13, slots := #[.int (39)], vm := .none },
  { cls := 13, slots := #[.int (40)], vm := .none },
  { cls := 13, slots := #[.int (41)], vm := .none },
  { cls := 13, slots := #[.int (42)], vm := .none },
  { cls := 13, slots := #[.int (43)], vm := .none },
  { cls := 13, slots := #[.int (44)], vm := .none },
  { cls := 13, slots := #[.int (45)], vm := .none },
  { cls := 13, slots := #[.int (46)], vm := .none },
  { cls := 13, slots := #[.int (47)], vm := .none },
  { cls := 13, slots := #[.int (48)], vm := .none },
  { cls := 13, slots := #[.int (49)], vm := .none },
  { cls := 13, slots := #[.int (50)], vm := .none },
  { cls := 13, slots := #[.int (51)], vm := .none },
  { cls := 13, slots := #[.int (52)], vm := .none },
  { cls := 13, slots := #[.int (53)], vm := .none },
  { cls := 13, slots := #[.int (54)], vm := .none },
  { cls := 13, slots := #[.int (55)], vm := .none },
  { cls := 13, slots := #[.int (56)], vm := .none },
  { cls := 13, slots := #[.int (57)], vm := .none },
  { cls := 13, slots := #[.int (58)], vm := .none },
  { cls := 13, slots := #[.int (59)], vm := .none },
  { cls := 13, slots := #[.int (60)], vm := .none },
  { cls := 13, slots := #[.int (61)], vm := .none },
  { cls := 13, slots := #[.int (62)], vm := .none },
  { cls := 13, slots := #[.int (63)], vm := .none },
  { cls := 13, slots := #[.int (64)], vm := .none },
  { cls := 13, slots := #[.int (65)], vm := .none },
  { cls := 13, slots := #[.int (66)], vm := .none },
  { cls := 13, slots := #[.int (67)], vm := .none },
  { cls := 13, slots := #[.int (68)], vm := .none },
  { cls := 13, slots := #[.int (69)], vm := .none },
  { cls := 13, slots := #[.int (70)], vm := .none },
  { cls := 13, slots := #[.int (71)], vm := .none },
  { cls := 13, slots := #[.int (72)], vm := .none },
  { cls := 13, slots := #[.int (73)], vm := .none },
  { cls := 13, slots := #[.int (74)], vm := .none },
  { cls := 13, slots := #[.int (75)], vm := .none },
  { cls := 13, slots := #[.int (76)], vm := .none },
  { cls := 13, slots := #[.int (77)], vm := .none },
  { cls := 13, slots := #[.int (78)], vm := .none },
  { cls := 13, slots := #[.int (79)], vm := .none },
  { cls := 13, slots := #[.int (80)], vm := .none },
  { cls := 13, slots := #[.int (81)], vm := .none },
  { cls := 13, slots := #[.int (82)], vm := .none },
  { cls := 13, slots := #[.int (83)], vm := .none },
  { cls := 13, slots := #[.int (84)], vm := .none },
  { cls := 13, slots := #[.int (85)], vm := .none },
  { cls := 13, slots := #[.int (86)], vm := .none },
  { cls := 13, slots := #[.int (87)], vm := .none },
  { cls := 13, slots := #[.int (88)], vm := .none },
  { cls := 13, slots := #[.int (89)], vm := .none },
  { cls := 13, slots := #[.int (90)], vm := .none },
  { cls := 13, slots := #[.int (91)], vm := .none },
  { cls := 13, slots := #[.int (92)], vm := .none },
  { cls := 13, slots := #[.int (93)], vm := .none },
  { cls := 13, slots := #[.int (94)], vm := .none },
  { cls := 13, slots := #[.int (95)], vm := .none },
  { cls := 13, slots := #[.int (96)], vm := .none },
  { cls := 13, slots := #[.int (97)], vm := .none },
  { cls := 13, slots := #[.int (98)], vm := .none },
  { cls := 13, slots := #[.int (99)], vm := .none },
  { cls := 13, slots := #[.int (100)], vm := .none },
  { cls := 13, slots := #[.int (101)], vm := .none },
  { cls := 13, slots := #[.int (102)], vm := .none },
  { cls := 13, slots := #[.int (103)], vm := .none },
  { cls := 13, slots := #[.int (104)], vm := .none },
  { cls := 13, slots := #[.int (105)], vm := .none },
  { cls := 13, slots := #[.int (106)], vm := .none },
  { cls := 13, slots := #[.int (107)], vm := .none },
  { cls := 13, slots := #[.int (108)], vm := .none },
  { cls := 13, slots := #[.int (109)], vm := .none },
  { cls := 13, slots := #[.int (110)], vm := .none },
  { cls := 13, slots := #[.int (111)], vm := .none },
  { cls := 13, slots := #[.int (112)], vm := .none },
  { cls := 13, slots := #[.int (113)], vm := .none },
  { cls := 13, slots := #[.int (114)], vm := .none },
  { cls := 13, slots := #[.int (115)], vm := .none },
  { cls := 13, slots := #[.int (116)], vm := .none },
  { cls := 13, slots := #[.int (117)], vm := .none },
  { cls := 13, slots := #[.int (118)], vm := .none },
  { cls := 13, slots := #[.int (119)], vm := .none },
  { cls := 13, slots := #[.int (120)], vm := .none },
  { cls := 13, slots := #[.int (121)], vm := .none },
  { cls := 13, slots := #[.int (122)], vm := .none },
  { cls := 13, slots := #[.int (123)], vm := .none },
  { cls := 13, slots := #[.int (124)], vm := .none },
  { cls := 13, slots := #[.int (125)], vm := .none },
  { cls := 13, slots := #[.int (126)], vm := .none },
  { cls := 13, slots := #[.int (127)], vm := .none }]
def classes : Array Class := #[k0, k1, k2, k3, k4, k5, k6, k7, k8, k9, k10, k11, k12, k13, k14, k15, k16, k17, k18, k19, k20]
def interned : List (Array UInt16 × Addr) := []
def slotsUsed : Nat := 549
def theMethod : MethodId := ⟨1, 2⟩
def args0 : Array Value := #[.int 5, .long 3, .long 7, .int 8, .int 9, .int 10]
def aboutOver (below : List Frame) : State where
  vm := { classes := classes, interned := interned.toArray }
  heap := heap
  slotsUsed := slotsUsed
  threads := #[{ frames := .invoking theMethod args0 :: below }]
def below0 : List Frame := [.native { method := ⟨0, 0⟩, args := #[] }]
def about1 : State := aboutOver below0
def p0 : Program := .bare "" "" ""
def e0 : Env := launch0.env 0 0 0
theorem w_frames : about1.frames = Frame.invoking theMethod args0 :: below0 := rfl
set_option maxRecDepth 65536 in
theorem w_args : argsFit about1.vm theMethod args0 = true := by decide +kernel
set_option maxRecDepth 65536 in
theorem w_heap : heapFits about1 = true := by decide +kernel
set_option maxRecDepth 65536 in
theorem w_runnable : about1.curStatus? = some .runnable := by decide +kernel
set_option maxRecDepth 65536 in
theorem w_alone : about1.alone = true := by decide +kernel
set_option maxRecDepth 65536 in
theorem w_named : about1.methodNamed? x = some theMethod := by decide +kernel
set_option maxRecDepth 65536 in
theorem w_hears : about1.hears theMethod below0 = true := by decide +kernel
set_option maxRecDepth 65536 in
theorem w_ripe : about1.ripe theMethod args0 below0 = true := by decide +kernel
theorem w_running : about1.status = .running := rfl
set_option maxRecDepth 65536 in
theorem w_room : about1.hasRoom e0.platform room_1 = true :=
  launch0.hasRoom_least _ room_1 (by decide +kernel) (by decide +kernel) (by decide +kernel) (by decide +kernel) (by decide +kernel) (by decide +kernel)
theorem allAtoms_all (ts : List Jvm.Cond) (a : Array Jvm.Value) (st : Jvm.State) : (allAtoms ts).before a st = ts.all (fun c => c.before a st) := by
  induction ts with
  | nil => rfl
  | cons c t ih =>
    show (Jvm.Cond.and c (allAtoms t)).before a st = _
    rw [Jvm.Cond.before_and, ih, List.all_cons]
def words1 : List Jvm.Cond := Jvm.Cond.code x code maxLocals ret :: tables_1
/-- a 'code' word, met by the world's own term for the bytes: nothing is compared byte by byte -/
theorem code_word {y : MethodName} {bytes : ByteArray} {mx : Nat} {rt : Option FieldType} {a : Array Value} {s : State} {m : MethodId} {meth : Method} {c : Code} (h1 : s.methodNamed? y = some m) (h2 : s.vm.method? m = some meth) (h3 : meth.code = some c) (h4 : c.code = bytes)
    (h5 : (c.maxLocals == mx && c.exceptionTable.isEmpty && decide (c.maxStack ≤ mostOperands) && decide (meth.sig.returnType = rt) && !meth.locks && decide (parseMethodDescriptor y.desc = some meth.sig)) = true) : (Jvm.Cond.code y bytes mx rt).before a s = true := by
  simp only [Bool.and_eq_true, beq_iff_eq, Bool.not_eq_true', decide_eq_true_eq] at h5
  obtain ⟨⟨⟨⟨⟨g1, g2⟩, g3⟩, g4⟩, g5⟩, g6⟩ := h5
  simp [Cond.before, Cond.holds, Cond.value, h1, h2, h3, h4, g1, g2, g3, g4, g5, g6]
def isCode : Jvm.Cond → Bool
  | .code _ _ _ _ => true
  | _ => false
theorem all_split {L : List Jvm.Cond} {P : Jvm.Cond → Bool} (h1 : L.all (fun c => isCode c || P c) = true) (h2 : ∀ c ∈ L.filter isCode, P c = true) : L.all P = true := by
  refine List.all_eq_true.mpr fun c hc => ?_
  have h := List.all_eq_true.mp h1 c hc
  rcases Bool.eq_false_or_eq_true (isCode c) with hi | hi
  · exact h2 c (List.mem_filter.mpr ⟨hc, hi⟩)
  · simpa [hi] using h
set_option maxRecDepth 65536 in
theorem w_c0 : (Jvm.Cond.code x code maxLocals ret).before args0 about1 = true := code_word (m := ⟨1, 2⟩) (meth := k1m2) (c := k1c2) (by decide +kernel) rfl rfl rfl (by decide +kernel)
set_option maxRecDepth 65536 in
theorem w_c1 : (Jvm.Cond.code ({ cls := "com/example/pair16/pair16/Utf16FaultEqualsPinLaw", name := "kindOf", desc := "(I)Lcom/example/pair16/pair16/Utf16Fault$Kind;" } : Jvm.MethodName) method_2_code (1 : Nat) (Option.some (Jvm.ClassFile.FieldType.object "com/example/pair16/pair16/Utf16Fault$Kind"))).before args0 about1 = true := code_word (m := ⟨1, 1⟩) (meth := k1m1) (c := k1c1) (by decide +kernel) rfl rfl rfl (by decide +kernel)
set_option maxRecDepth 65536 in
theorem w_c2 : (Jvm.Cond.code ({ cls := "com/example/pair16/pair16/Utf16Fault", name := "<init>", desc := "(Lcom/example/pair16/pair16/Utf16Fault$Kind;JI)V" } : Jvm.MethodName) prog_46_method_1_code (5 : Nat) (Option.none : Option Jvm.ClassFile.FieldType)).before args0 about1 = true := code_word (m := ⟨7, 0⟩) (meth := k7m0) (c := k7c0) (by decide +kernel) rfl rfl rfl (by decide +kernel)
set_option maxRecDepth 65536 in
theorem w_c3 : (Jvm.Cond.code ({ cls := "java/lang/Object", name := "<init>", desc := "()V" } : Jvm.MethodName) object_method_1_code (1 : Nat) (Option.none : Option Jvm.ClassFile.FieldType)).before args0 about1 = true := code_word (m := ⟨0, 0⟩) (meth := k0m0) (c := k0c0) (by decide +kernel) rfl rfl rfl (by decide +kernel)
set_option maxRecDepth 65536 in
theorem w_c4 : (Jvm.Cond.code ({ cls := "java/util/Objects", name := "requireNonNull", desc := "(Ljava/lang/Object;Ljava/lang/String;)Ljava/lang/Object;" } : Jvm.MethodName) jdk_31_method_11_code (2 : Nat) (Option.some (Jvm.ClassFile.FieldType.object "java/lang/Object"))).before args0 about1 = true := code_word (m := ⟨11, 1⟩) (meth := k11m1) (c := k11c1) (by decide +kernel) rfl rfl rfl (by decide +kernel)
set_option maxRecDepth 65536 in
theorem w_c5 : (Jvm.Cond.code ({ cls := "java/lang/Integer", name := "valueOf", desc := "(I)Ljava/lang/Integer;" } : Jvm.MethodName) jdk_33_method_22_code (1 : Nat) (Option.some (Jvm.ClassFile.FieldType.object "java/lang/Integer"))).before args0 about1 = true := code_word (m := ⟨13, 0⟩) (meth := k13m0) (c := k13c0) (by decide +kernel) rfl rfl rfl (by decide +kernel)
set_option maxRecDepth 65536 in
theorem w_c6 : (Jvm.Cond.code ({ cls := "com/example/pair16/pair16/Utf16Fault", name := "equals", desc := "(Ljava/lang/Object;)Z" } : Jvm.MethodName) prog_46_method_6_code (3 : Nat) (Option.some Jvm.ClassFile.FieldType.boolean)).before args0 about1 = true := code_word (m := ⟨7, 1⟩) (meth := k7m1) (c := k7c1) (by decide +kernel) rfl rfl rfl (by decide +kernel)
set_option maxRecDepth 65536 in
theorem w_c7 : (Jvm.Cond.code ({ cls := "java/lang/Integer", name := "<init>", desc := "(I)V" } : Jvm.MethodName) jdk_33_method_23_code (2 : Nat) (Option.none : Option Jvm.ClassFile.FieldType)).before args0 about1 = true := code_word (m := ⟨13, 1⟩) (meth := k13m1) (c := k13c1) (by decide +kernel) rfl rfl rfl (by decide +kernel)
set_option maxRecDepth 65536 in
theorem w_c8 : (Jvm.Cond.code ({ cls := "java/lang/Number", name := "<init>", desc := "()V" } : Jvm.MethodName) jdk_18_method_1_code (1 : Nat) (Option.none : Option Jvm.ClassFile.FieldType)).before args0 about1 = true := code_word (m := ⟨12, 0⟩) (meth := k12m0) (c := k12c0) (by decide +kernel) rfl rfl rfl (by decide +kernel)
def codes1 : List Jvm.Cond := [Jvm.Cond.code x code maxLocals ret, Jvm.Cond.code ({ cls := "com/example/pair16/pair16/Utf16FaultEqualsPinLaw", name := "kindOf", desc := "(I)Lcom/example/pair16/pair16/Utf16Fault$Kind;" } : Jvm.MethodName) method_2_code (1 : Nat) (Option.some (Jvm.ClassFile.FieldType.object "com/example/pair16/pair16/Utf16Fault$Kind")), Jvm.Cond.code ({ cls := "com/example/pair16/pair16/Utf16Fault", name := "<init>", desc := "(Lcom/example/pair16/pair16/Utf16Fault$Kind;JI)V" } : Jvm.MethodName) prog_46_method_1_code (5 : Nat) (Option.none : Option Jvm.ClassFile.FieldType), Jvm.Cond.code ({ cls := "java/lang/Object", name := "<init>", desc := "()V" } : Jvm.MethodName) object_method_1_code (1 : Nat) (Option.none : Option Jvm.ClassFile.FieldType), Jvm.Cond.code ({ cls := "java/util/Objects", name := "requireNonNull", desc := "(Ljava/lang/Object;Ljava/lang/String;)Ljava/lang/Object;" } : Jvm.MethodName) jdk_31_method_11_code (2 : Nat) (Option.some (Jvm.ClassFile.FieldType.object "java/lang/Object")), Jvm.Cond.code ({ cls := "java/lang/Integer", name := "valueOf", desc := "(I)Ljava/lang/Integer;" } : Jvm.MethodName) jdk_33_method_22_code (1 : Nat) (Option.some (Jvm.ClassFile.FieldType.object "java/lang/Integer")), Jvm.Cond.code ({ cls := "com/example/pair16/pair16/Utf16Fault", name := "equals", desc := "(Ljava/lang/Object;)Z" } : Jvm.MethodName) prog_46_method_6_code (3 : Nat) (Option.some Jvm.ClassFile.FieldType.boolean), Jvm.Cond.code ({ cls := "java/lang/Integer", name := "<init>", desc := "(I)V" } : Jvm.MethodName) jdk_33_method_23_code (2 : Nat) (Option.none : Option Jvm.ClassFile.FieldType), Jvm.Cond.code ({ cls := "java/lang/Number", name := "<init>", desc := "()V" } : Jvm.MethodName) jdk_18_method_1_code (1 : Nat) (Option.none : Option Jvm.ClassFile.FieldType)]
set_option maxRecDepth 65536 in
theorem codes_eq : words1.filter isCode = codes1 := rfl
theorem w_codes : ∀ c ∈ words1.filter isCode, c.before args0 about1 = true := by
  rw [codes_eq]
  intro c hc
  simp only [codes1, List.mem_cons, List.not_mem_nil, or_false] at hc
  rcases hc with rfl | rfl | rfl | rfl | rfl | rfl | rfl | rfl | rfl
  · exact w_c0
  · exact w_c1
  · exact w_c2
  · exact w_c3
  · exact w_c4
  · exact w_c5
  · exact w_c6
  · exact w_c7
  · exact w_c8
set_option maxRecDepth 65536 in
theorem w_t1 : (words1.take 24).all (fun c => isCode c || c.before args0 about1) = true := by decide +kernel
set_option maxRecDepth 65536 in
theorem w_t2 : ((words1.drop 24).take 24).all (fun c => isCode c || c.before args0 about1) = true := by decide +kernel
set_option maxRecDepth 65536 in
theorem w_t3 : (((words1.drop 24).drop 24).take 24).all (fun c => isCode c || c.before args0 about1) = true := by decide +kernel
set_option maxRecDepth 65536 in
theorem w_t4 : (((words1.drop 24).drop 24).drop 24).all (fun c => isCode c || c.before args0 about1) = true := by decide +kernel
theorem w_tables : (allAtoms (Jvm.Cond.code x code maxLocals ret :: tables_1)).before args0 about1 = true := by
  rw [allAtoms_all]
  show words1.all (fun c => c.before args0 about1) = true
  refine all_split ?_ w_codes
  rw [← List.take_append_drop 24 words1, List.all_append, w_t1, ← List.take_append_drop 24 (words1.drop 24), List.all_append, w_t2, ← List.take_append_drop 24 ((words1.drop 24).drop 24), List.all_append, w_t3, w_t4]
  rfl
set_option maxRecDepth 65536 in
theorem w_rest : rest_1_c.before args0 about1 = true := by decide +kernel
set_option maxRecDepth 65536 in
theorem w_case : (Jvm.Cond.and given_1 narrow_1).before args0 about1 = true := by decide +kernel
theorem w_applies : (headSpec (Jvm.Cond.code x code maxLocals ret :: tables_1) room_1).applies x e0.platform about1 = true :=
  (Spec.applies_iff w_frames).mpr ⟨w_running, w_runnable, w_alone, w_named, w_hears, w_ripe, w_room, w_tables⟩
theorem atStart : AtStart classFile x code maxLocals ret World_1 tables_1 room_1 Calls_1 rest_1 Pre_1 launch0 p0 e0 about1 theMethod args0 below0 :=
  ⟨lists_1, trivial, launch0.admits_env _ _ _, launch0.least_env, fairChoices_fair.cas, fairChoices_fair.clock, w_frames, w_args, w_heap, w_applies, trivial, w_rest, w_case⟩
end start1
theorem witness_1 : WitnessClaimed_1 := ⟨start1.p0, start1.e0, start1.about1, start1.theMethod, start1.args0, start1.below0, start1.atStart⟩
end Jvm.Pilot.@@N@@
