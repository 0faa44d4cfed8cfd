import JvmDerived
import JvmDerived.Pilot.@@N@@Statement
import JvmDerived.Pilot.@@N@@Code
set_option linter.unusedVariables false
set_option linter.unusedSimpArgs false
namespace Jvm.Pilot.@@N@@
open Jvm Jvm.ClassFile Sem Op Lib Jvm.Free Jvm.Stand Jvm.LawKit Jvm.RoadKit Bundle Jvm.Pilot.@@N@@.Jvm.D
/-! own kit: the walk in continuation form: 'Go': from this point the body comes to its end with what Q says -/
section OwnGo
variable {p : Program} {l : Launch} {e : Env} {R : Room} {s : State} {m : MethodId} {args : Array Value} {below : List Frame} {meth : Method} {c : Code} {T : State} {locs : List Loc} {cells slots : Nat} {Z : State} {a0 : Array Value} {h : Heap} {Q : Option Value → Heap → List Loc → Prop} {C S : Nat} {End : Outcome → State → List Loc → Prop}
def Go (p : Program) (e : Env) (below : List Frame) (End : Outcome → State → List Loc → Prop) (Q : Option Value → Heap → List Loc → Prop) (T : State) (f : JFrame) : Prop :=
  ∃ s₂ o, Steps p.tables e below (T.setTop f) s₂ ∧ s₂.status = .running ∧ Ended s₂ below o ∧ ∃ v L, o = .returned v ∧ Q v s₂.heap L ∧ End o s₂ L
/-- the end of a walk that leaves the table of strings alone, and of one that may not -/
def EndN (s : State) (C S : Nat) : Outcome → State → List Loc → Prop := fun o t L => FrameEnd s o t L C S
def EndW (s : State) (C S : Nat) : Outcome → State → List Loc → Prop := fun o t L => ReturnedEndW s o t L C S
def OwnP (val : Option Value) (h0 : Heap) (n0 : Nat) (v : Option Value) (h : Heap) (L : List Loc) : Prop := v = val ∧ Fr n0 L ∧ h = h0
def OwnR (val : Option Value) (n0 : Nat) (v : Option Value) (h : Heap) (L : List Loc) : Prop := v = val ∧ Fr n0 L
abbrev OwnMet (l : Launch) (Z : State) (y : MethodName) (bytes : ByteArray) (maxL : Nat) (ret : Option FieldType) (ws : List Jvm.Cond) (rm : Room) (as' : Array Value) (h0 : Heap) (Q : Option Value → Heap → List Loc → Prop) : Prop :=
  MetFree l y (head1 (Jvm.Cond.code y bytes maxL ret :: ws) rm) (fun a U => a = as' ∧ Z.Warmed39 U.vm ∧ U.heap = h0) (fun _ _ _ _ _ => True) (fun _ U o U' => ∃ v L, o = .returned v ∧ Q v U'.heap L ∧ FrameEnd U o U' L rm.cells rm.slots)
theorem own_body {y : MethodName} {bytes : ByteArray} {maxL : Nat} {ret : Option FieldType} {ws : List Jvm.Cond} {rm : Room} {as' : Array Value} {h0 : Heap} (hpl : plainFor y = true)
    (k : ∀ (p : Program) (e : Env) (s : State) (m : MethodId) (below : List Frame) (meth : Method) (c : Code) (s₁ : State), Stand p l e rm s m as' below meth c s₁ [] 0 0 → p.tables.exec = Jvm.exec → c.code = bytes → c.maxLocals = maxL → meth.sig.returnType = ret → meth.locks = false → s.vm.findClass y.cls = some m.cls → meth.name = y.name → Z.Warmed39 s.vm → s₁.heap = h0 → s.heap = h0 → Go p e below (EndN s rm.cells rm.slots) Q s₁ (entryFrame m as' maxL)) :
    OwnMet l Z y bytes maxL ret ws rm as' h0 Q := by
  refine MetFree.of_bodySF hpl hisR ?_
  intro p e s m args below meth c s₁ Bd hml0 hP hK
  obtain ⟨rfl, hZ, hh⟩ := hP
  exact k p e s m below meth c s₁ (Stand.of_body Bd) Bd.exec Bd.bytes hml0 Bd.returns Bd.notSynchronized (findClass_of_methodNamed Bd.named) (name_of_methodNamed Bd.named Bd.method).1 hZ (by rw [← hh, Bd.state]; rfl) hh
theorem own_go {T' : State} {f f' : JFrame} (k : ∀ t, Steps p.tables e below (T'.setTop f') t → Steps p.tables e below (T.setTop f) t) (G : Go p e below End Q T' f') : Go p e below End Q T f := by
  obtain ⟨s₂, o, hs, r⟩ := G
  exact ⟨s₂, o, k _ hs, r⟩
theorem own_entry {f : JFrame} {f' : JFrame} (q : f = f') (G : Go p e below End Q T f') : Go p e below End Q T f := q ▸ G
/-- the method can be left here -/
def Leaves (e : Env) (below : List Frame) (m : MethodId) (meth : Method) (T : State) (locs : List Loc) (End : Outcome → State → List Loc → Prop) : Prop :=
  ∀ v : Option Value, (meth.sig.returnType = none → v = none) → ∃ fs, (∀ (f : JFrame) (acts : List Action), f.method = m → f.locked = none → f.entered = [] → (doReturn e (T.setTop f) acts v).1 = T.setFrames fs) ∧ (T.setFrames fs).status = .running ∧ Ended (T.setFrames fs) below (.returned v) ∧ End (.returned v) (T.setFrames fs) locs
theorem own_lvN (X : Stand p l e R s m args below meth c T locs cells slots) (hlk : meth.locks = false) (hC : cells ≤ C) (hS : slots ≤ S) : Leaves e below m meth T locs (EndN s C S) := fun v hv => by
  obtain ⟨fs, hr, hrun, hended, hW, hsame⟩ := X.leave hv hlk
  exact ⟨fs, hr, hrun, hended, ⟨_, rfl⟩, hW, hsame.mono hC hS⟩
theorem own_leave {v : Option Value} (LV : Leaves e below m meth T locs End) (hv : meth.sig.returnType = none → v = none) {f : JFrame}
    (st : ∀ fs, (∀ (f : JFrame) (acts : List Action), f.method = m → f.locked = none → f.entered = [] → (doReturn e (T.setTop f) acts v).1 = T.setFrames fs) → Steps p.tables e below (T.setTop f) (T.setFrames fs))
    (hQ : Q v T.heap locs) : Go p e below End Q T f := by
  obtain ⟨fs, hr, hrun, hended, hE⟩ := LV v hv
  exact ⟨_, _, st fs hr, hrun, hended, _, _, rfl, hQ, hE⟩
theorem own_retN (X : Stand p l e R s m args below meth c T locs cells slots) (hx : p.tables.exec = Jvm.exec) (LV : Leaves e below m meth T locs End) {pc : Nat} {Ls : Array Slot} {z : Int32} {t : FieldType} {rest : List Value} (hret : meth.sig.returnType = some t) (ht : t = .boolean ∨ t = .byte ∨ t = .char ∨ t = .short)
    (hd : decode c.code pc = .ok (.ireturn, 1)) (hQ : Q (some (.int (nar t z))) T.heap locs) : Go p e below End Q T (mkF m pc Ls (.int z :: rest)) :=
  own_leave LV (fun h => by rw [hret] at h; cases h) (fun fs hr => retN X hx hret ht hd hr) hQ
theorem own_retO (X : Stand p l e R s m args below meth c T locs cells slots) (hx : p.tables.exec = Jvm.exec) (LV : Leaves e below m meth T locs End) {pc : Nat} {Ls : Array Slot} {w : Value} {t : FieldType} {i : Instr} {rest : List Value} (hret : meth.sig.returnType = some t) (hn : narrow t w = w)
    (hi : (i = .ireturn ∧ (t = .int ∨ t = .boolean ∨ t = .byte ∨ t = .char ∨ t = .short) ∧ ∃ z, w = .int z) ∨ (i = .lreturn ∧ t = .long ∧ ∃ z, w = .long z) ∨ (i = .dreturn ∧ t = .double ∧ ∃ z, w = .double z) ∨ (i = .freturn ∧ t = .float ∧ ∃ z, w = .float z) ∨ (i = .areturn ∧ t.isReference = true ∧ w.isRef = true))
    (hd : decode c.code pc = .ok (i, 1)) (hQ : Q (some w) T.heap locs) : Go p e below End Q T (mkF m pc Ls (w :: rest)) :=
  own_leave LV (fun h => by rw [hret] at h; cases h) (fun fs hr => retOut X hx hret hn hi hd hr) hQ
theorem own_retI (X : Stand p l e R s m args below meth c T locs cells slots) (hx : p.tables.exec = Jvm.exec) (LV : Leaves e below m meth T locs End) {pc : Nat} {Ls : Array Slot} {z : Int32} {rest : List Value} (hret : meth.sig.returnType = some .int)
    (hd : decode c.code pc = .ok (.ireturn, 1)) (hQ : Q (some (.int z)) T.heap locs) : Go p e below End Q T (mkF m pc Ls (.int z :: rest)) :=
  own_retO X hx LV hret rfl (Or.inl ⟨rfl, Or.inl rfl, z, rfl⟩) hd hQ
theorem own_retL (X : Stand p l e R s m args below meth c T locs cells slots) (hx : p.tables.exec = Jvm.exec) (LV : Leaves e below m meth T locs End) {pc : Nat} {Ls : Array Slot} {z : Int64} {rest : List Value} (hret : meth.sig.returnType = some .long)
    (hd : decode c.code pc = .ok (.lreturn, 1)) (hQ : Q (some (.long z)) T.heap locs) : Go p e below End Q T (mkF m pc Ls (.long z :: rest)) :=
  own_retO X hx LV hret rfl (Or.inr (Or.inl ⟨rfl, rfl, z, rfl⟩)) hd hQ
theorem own_retA (X : Stand p l e R s m args below meth c T locs cells slots) (hx : p.tables.exec = Jvm.exec) (LV : Leaves e below m meth T locs End) {pc : Nat} {Ls : Array Slot} {w : Value} {t : FieldType} {rest : List Value} (hret : meth.sig.returnType = some t) (ht : t.isReference = true) (hw : w.isRef = true)
    (hd : decode c.code pc = .ok (.areturn, 1)) (hQ : Q (some w) T.heap locs) : Go p e below End Q T (mkF m pc Ls (w :: rest)) :=
  own_retO X hx LV hret (by cases t <;> first | (cases w <;> first | rfl | cases hw) | cases ht) (Or.inr (Or.inr (Or.inr (Or.inr ⟨rfl, ht, hw⟩)))) hd hQ
theorem own_retV (X : Stand p l e R s m args below meth c T locs cells slots) (hx : p.tables.exec = Jvm.exec) (LV : Leaves e below m meth T locs End) {pc : Nat} {Ls : Array Slot} (hret : meth.sig.returnType = none)
    (hd : decode c.code pc = .ok (.return_, 1)) (hQ : Q none T.heap locs) : Go p e below End Q T (mkF m pc Ls []) :=
  own_leave LV (fun _ => rfl) (fun fs hr => X.returnOut hx hret hd hr) hQ
/-- a branch: taken where P -/
theorem own_icmpP (P : Prop) [Decidable P] (X : Stand p l e R s m args below meth c T locs cells slots) (hx : p.tables.exec = Jvm.exec) {cd : ClassFile.Cond} {x y : Int32} {rest : List Value} {o : Int} {pc pc' : Nat} {Ls : Array Slot} (hd : decode c.code pc = .ok (.if_icmp cd o, 3)) (hP : if_icmp.holds cd x y = decide P) (ho : 0 ≤ (pc : Int) + o) (hp : ((pc : Int) + o).toNat = pc')
    (h1 : P → Go p e below End Q T (mkF m pc' Ls rest)) (h2 : ¬ P → Go p e below End Q T (mkF m (pc + 3) Ls rest)) : Go p e below End Q T (mkF m pc Ls (.int y :: .int x :: rest)) := by
  by_cases q : P
  · exact own_go (fun t k => XS.icmpYes X.here hx rfl (pc0 := pc) (pc' := pc') rfl hd rfl (by rw [hP]; exact decide_eq_true q) ho hp k) (h1 q)
  · exact own_go (fun t k => XS.icmpNo X.here hx rfl hd rfl (by rw [hP]; exact decide_eq_false q) k) (h2 q)
/-- a branch: taken where not P -/
theorem own_icmpM (P : Prop) [Decidable P] (X : Stand p l e R s m args below meth c T locs cells slots) (hx : p.tables.exec = Jvm.exec) {cd : ClassFile.Cond} {x y : Int32} {rest : List Value} {o : Int} {pc pc' : Nat} {Ls : Array Slot} (hd : decode c.code pc = .ok (.if_icmp cd o, 3)) (hP : if_icmp.holds cd x y = !decide P) (ho : 0 ≤ (pc : Int) + o) (hp : ((pc : Int) + o).toNat = pc')
    (h1 : ¬ P → Go p e below End Q T (mkF m pc' Ls rest)) (h2 : P → Go p e below End Q T (mkF m (pc + 3) Ls rest)) : Go p e below End Q T (mkF m pc Ls (.int y :: .int x :: rest)) := by
  by_cases q : P
  · exact own_go (fun t k => XS.icmpNo X.here hx rfl hd rfl (by rw [hP]; simp [q]) k) (h2 q)
  · exact own_go (fun t k => XS.icmpYes X.here hx rfl (pc0 := pc) (pc' := pc') rfl hd rfl (by rw [hP]; simp [q]) ho hp k) (h1 q)
theorem own_ifP (P : Prop) [Decidable P] (X : Stand p l e R s m args below meth c T locs cells slots) (hx : p.tables.exec = Jvm.exec) {cd : ClassFile.Cond} {x : Int32} {rest : List Value} {o : Int} {pc pc' : Nat} {Ls : Array Slot} (hd : decode c.code pc = .ok (.ifCond cd o, 3)) (hP : if_icmp.holds cd x 0 = decide P) (ho : 0 ≤ (pc : Int) + o) (hp : ((pc : Int) + o).toNat = pc')
    (h1 : P → Go p e below End Q T (mkF m pc' Ls rest)) (h2 : ¬ P → Go p e below End Q T (mkF m (pc + 3) Ls rest)) : Go p e below End Q T (mkF m pc Ls (.int x :: rest)) := by
  by_cases q : P
  · exact own_go (fun t k => XS.ifYes X.here hx rfl (pc0 := pc) (pc' := pc') rfl hd rfl (by rw [if0, hP]; exact decide_eq_true q) ho hp k) (h1 q)
  · exact own_go (fun t k => XS.ifNo X.here hx rfl hd rfl (by rw [if0, hP]; exact decide_eq_false q) k) (h2 q)
theorem own_ifM (P : Prop) [Decidable P] (X : Stand p l e R s m args below meth c T locs cells slots) (hx : p.tables.exec = Jvm.exec) {cd : ClassFile.Cond} {x : Int32} {rest : List Value} {o : Int} {pc pc' : Nat} {Ls : Array Slot} (hd : decode c.code pc = .ok (.ifCond cd o, 3)) (hP : if_icmp.holds cd x 0 = !decide P) (ho : 0 ≤ (pc : Int) + o) (hp : ((pc : Int) + o).toNat = pc')
    (h1 : ¬ P → Go p e below End Q T (mkF m pc' Ls rest)) (h2 : P → Go p e below End Q T (mkF m (pc + 3) Ls rest)) : Go p e below End Q T (mkF m pc Ls (.int x :: rest)) := by
  by_cases q : P
  · exact own_go (fun t k => XS.ifNo X.here hx rfl hd rfl (by rw [if0, hP]; simp [q]) k) (h2 q)
  · exact own_go (fun t k => XS.ifYes X.here hx rfl (pc0 := pc) (pc' := pc') rfl hd rfl (by rw [if0, hP]; simp [q]) ho hp k) (h1 q)
theorem own_eq (x y : Int32) : if_icmp.holds .eq x y = decide (x = y) := by by_cases q : x = y <;> simp [if_icmp.holds, q]
theorem own_ne (x y : Int32) : if_icmp.holds .ne x y = !decide (x = y) := by by_cases q : x = y <;> simp [if_icmp.holds, q]
theorem own_lt (x y : Int32) : if_icmp.holds .lt x y = decide (x < y) := by by_cases q : x < y <;> simp [if_icmp.holds, q]
theorem own_ge (x y : Int32) : if_icmp.holds .ge x y = !decide (x < y) := by
  by_cases q : x < y
  · rw [(tlt q).2.1]; simp [q]
  · rw [(flt q).2.1]; simp [q]
theorem own_gt (x y : Int32) : if_icmp.holds .gt x y = decide (y < x) := by
  by_cases q : y < x
  · rw [(tlt q).2.2.1]; simp [q]
  · rw [(flt q).2.2.1]; simp [q]
theorem own_le (x y : Int32) : if_icmp.holds .le x y = !decide (y < x) := by
  by_cases q : y < x
  · rw [(tlt q).2.2.2]; simp [q]
  · rw [(flt q).2.2.2]; simp [q]
theorem own_acmp (P : Prop) [Decidable P] (X : Stand p l e R s m args below meth c T locs cells slots) (hx : p.tables.exec = Jvm.exec) {cd : ACond} {x y : Value} {rest : List Value} {o : Int} {pc : Nat} {Ls : Array Slot} (h1 : x.isRef = true) (h2 : y.isRef = true) (hP : (x = y) ↔ P) (hd : decode c.code pc = .ok (.if_acmp cd o, 3)) (ho : 0 ≤ (pc : Int) + o) {pcE pcN : Nat}
    (hE : pcE = if acV cd true = true then ((pc : Int) + o).toNat else pc + 3) (hN : pcN = if acV cd false = true then ((pc : Int) + o).toNat else pc + 3)
    (k1 : P → Go p e below End Q T (mkF m pcE Ls rest)) (k2 : ¬ P → Go p e below End Q T (mkF m pcN Ls rest)) : Go p e below End Q T (mkF m pc Ls (y :: x :: rest)) := by
  by_cases q : P
  · exact own_go (fun t k => Jvm.RoadKit.acmp (g := mkF m pc Ls (y :: x :: rest)) X hx rfl h1 h2 (pc0 := pc) (pc' := pcE) (same := true) rfl hd rfl (decide_eq_true (hP.mpr q)) ho hE k) (k1 q)
  · exact own_go (fun t k => Jvm.RoadKit.acmp (g := mkF m pc Ls (y :: x :: rest)) X hx rfl h1 h2 (pc0 := pc) (pc' := pcN) (same := false) rfl hd rfl (decide_eq_false fun z => q (hP.mp z)) ho hN k) (k2 q)
theorem own_ref (a b : Addr) : (Value.ref a = Value.ref b) ↔ (a = b) := ⟨Value.ref.inj, congrArg Value.ref⟩
theorem own_callS (X : Stand p l e R s m args below meth c T locs cells slots) (hx : p.tables.exec = Jvm.exec) (hZ : Z.Warmed39 s.vm) {own : String} {index : Nat} {y : MethodName} {bytes : ByteArray} {maxL : Nat} {ret : Option FieldType} {rm : Room} {as' : Array Value} {Qc : Option Value → Heap → List Loc → Prop}
    (hown : s.vm.findClass own = some m.cls) (wl : (Cond.methodLink own index y).before a0 Z = true) (wst : (Cond.static y).before a0 Z = true) (wi : (Cond.initialized y.cls).before a0 Z = true) (wc : (Cond.code y bytes maxL ret).before a0 Z = true)
    (hy : y.cls ≠ "java/lang/invoke/MethodHandle" ∧ y.cls ≠ "java/lang/invoke/VarHandle")
    (hM : MetFree l y (head1 [Cond.code y bytes maxL ret] rm) (fun a U => a = as' ∧ Z.Warmed39 U.vm ∧ U.heap = h) (fun _ _ _ _ _ => True) (fun _ U o U' => ∃ v L, o = .returned v ∧ Qc v U'.heap L ∧ FrameEnd U o U' L rm.cells rm.slots))
    (eT : T.heap = h) {pc : Nat} {Ls : Array Slot} (hsize : Ls.size = c.maxLocals) {argsL rest stk : List Value} (hst : stk = argsL.reverse ++ rest) (ha : argsL.toArray = as') (hlen : ∀ sig, parseMethodDescriptor y.desc = some sig → argsL.length = sig.parameters.length) {W : Nat} (hW : (rest.map fun v => v.category).sum ≤ W)
    (hf : rm.frames + 1 ≤ R.frames) (hl : W + (maxL + 11) + rm.locals ≤ R.locals) (hd : decode c.code pc = .ok (.invokestatic index, 3)) (hc : cells + rm.cells ≤ R.cells) (hs : slots + rm.slots ≤ R.slots)
    (k : ∀ (v : Option Value) (T' : State) (L : List Loc), Stand p l e R s m args below meth c T' (locs ++ L) (cells + rm.cells) (slots + rm.slots) → Qc v T'.heap L → Go p e below End Q T' (mkF m (pc + 3) Ls (v.toList ++ rest))) :
    Go p e below End Q T (mkF m pc Ls stk) := by
  subst hst
  obtain ⟨v, _, ⟨T', L', k', n'⟩, -, X', ⟨Lc, hQ, l1, y1, z1⟩, st⟩ := Jvm.LawKit.callS X hx (y := y) hown (mvT hZ wl) (mvT hZ wst) (mvT hZ wi) (mvT hZ wc) hy (backOf (W := W) hM hZ wc wi hf hl) (g := mkF m pc Ls (argsL.reverse ++ rest)) rfl hsize (argsL := argsL) (rest := rest) hlen rfl (by show 2 * 0 + _ ≤ _; rw [Nat.mul_zero, Nat.zero_add]; exact hW) hd (fun _ _ => ⟨ha, eT, hc, hs⟩)
  dsimp only [Pt.U, Pt.locs, Pt.cells, Pt.slots] at X' l1 y1 z1 st hQ
  subst l1 y1 z1
  exact own_go (fun t q => st _ q) (k v T' Lc X' hQ)
theorem own_callV (X : Stand p l e R s m args below meth c T locs cells slots) (hx : p.tables.exec = Jvm.exec) (hZ : Z.Warmed39 s.vm) {own Cn : String} {index : Nat} {y : MethodName} {bytes : ByteArray} {maxL : Nat} {ret : Option FieldType} {rm : Room} {as' : Array Value} {Qc : Option Value → Heap → List Loc → Prop}
    (hown : s.vm.findClass own = some m.cls) (wl : (Cond.methodLink own index y).before a0 Z = true) (wd : (Cond.declares y).before a0 Z = true) (wsel : (Cond.selects Cn y y).before a0 Z = true) (win : (Cond.instanceMethod y).before a0 Z = true) (wc : (Cond.code y bytes maxL ret).before a0 Z = true) (wi : (Cond.initialized y.cls).before a0 Z = true)
    (hy : y.cls ≠ "java/lang/invoke/MethodHandle" ∧ y.cls ≠ "java/lang/invoke/VarHandle")
    (hM : MetFree l y (head1 [Cond.code y bytes maxL ret] rm) (fun a U => a = as' ∧ Z.Warmed39 U.vm ∧ U.heap = h) (fun _ _ _ _ _ => True) (fun _ U o U' => ∃ v L, o = .returned v ∧ Qc v U'.heap L ∧ FrameEnd U o U' L rm.cells rm.slots))
    (eT : T.heap = h) {b : Addr} (E : Exa Z h b Cn) {pc : Nat} {Ls : Array Slot} (hsize : Ls.size = c.maxLocals) {argsL rest stk : List Value} (hst : stk = argsL.reverse ++ .ref b :: rest) (ha : (.ref b :: argsL).toArray = as') (hlen : ∀ sig, parseMethodDescriptor y.desc = some sig → argsL.length = sig.parameters.length) {W : Nat} (hW : (rest.map fun v => v.category).sum ≤ W)
    (hf : rm.frames + 1 ≤ R.frames) (hl : W + (maxL + 11) + rm.locals ≤ R.locals) (hd : decode c.code pc = .ok (.invokevirtual index, 3)) (hc : cells + rm.cells ≤ R.cells) (hs : slots + rm.slots ≤ R.slots)
    (k : ∀ (v : Option Value) (T' : State) (L : List Loc), Stand p l e R s m args below meth c T' (locs ++ L) (cells + rm.cells) (slots + rm.slots) → Qc v T'.heap L → Go p e below End Q T' (mkF m (pc + 3) Ls (v.toList ++ rest))) :
    Go p e below End Q T (mkF m pc Ls stk) := by
  subst hst
  obtain ⟨cq, kq, qa, qb, qc⟩ := isOf hZ eT E
  obtain ⟨v, _, ⟨T', L', k', n'⟩, -, X', ⟨Lc, hQ, l1, y1, z1⟩, st⟩ := X.virtualBack hx (y := y) (z := y) hown (mvT hZ wl) (mvT hZ wd) (notFace_of_selects (args := #[]) (mvT hZ wsel)) (mvT hZ wsel) (mvT hZ win) hy (backOf (W := W) hM hZ wc wi hf hl) qa qc (g := mkF m pc Ls (argsL.reverse ++ .ref b :: rest)) rfl hsize (Steps.refl _) (argsL := argsL) (rest := rest) hlen rfl (by show 2 * 0 + _ ≤ _; rw [Nat.mul_zero, Nat.zero_add]; exact hW) hd (fun _ _ => ⟨ha, eT, hc, hs⟩)
  dsimp only [Pt.U, Pt.locs, Pt.cells, Pt.slots] at X' l1 y1 z1 st hQ
  subst l1 y1 z1
  exact own_go (fun t q => st.trans q) (k v T' Lc X' hQ)
theorem own_callU (X : Stand p l e R s m args below meth c T locs cells slots) (hx : p.tables.exec = Jvm.exec) (hZ : Z.Warmed39 s.vm) {own Cn owner : String} {index : Nat} {y z : MethodName} {bytes : ByteArray} {maxL : Nat} {ret : Option FieldType} {rm : Room} {as' : Array Value} {Qc : Option Value → Heap → List Loc → Prop}
    (hown : s.vm.findClass own = some m.cls) (wl : (Cond.methodLink own index y).before a0 Z = true) (wsm : (Cond.sameMethod y.cls owner y.name y.desc).before a0 Z = true) (wd : (Cond.declares ⟨owner, y.name, y.desc⟩).before a0 Z = true) (wsel : (Cond.selects Cn y z).before a0 Z = true) (win : (Cond.instanceMethod z).before a0 Z = true) (wc : (Cond.code z bytes maxL ret).before a0 Z = true) (wi : (Cond.initialized z.cls).before a0 Z = true)
    (hy : owner ≠ "java/lang/invoke/MethodHandle" ∧ owner ≠ "java/lang/invoke/VarHandle")
    (hM : MetFree l z (head1 [Cond.code z bytes maxL ret] rm) (fun a U => a = as' ∧ Z.Warmed39 U.vm ∧ U.heap = h) (fun _ _ _ _ _ => True) (fun _ U o U' => ∃ v L, o = .returned v ∧ Qc v U'.heap L ∧ FrameEnd U o U' L rm.cells rm.slots))
    (eT : T.heap = h) {b : Addr} (E : Exa Z h b Cn) {pc : Nat} {Ls : Array Slot} (hsize : Ls.size = c.maxLocals) {argsL rest stk : List Value} (hst : stk = argsL.reverse ++ .ref b :: rest) (ha : (.ref b :: argsL).toArray = as') (hlen : ∀ sig, parseMethodDescriptor y.desc = some sig → argsL.length = sig.parameters.length) {W : Nat} (hW : (rest.map fun v => v.category).sum ≤ W)
    (hf : rm.frames + 1 ≤ R.frames) (hl : W + (maxL + 11) + rm.locals ≤ R.locals) (hd : decode c.code pc = .ok (.invokevirtual index, 3)) (hc : cells + rm.cells ≤ R.cells) (hs : slots + rm.slots ≤ R.slots)
    (k : ∀ (v : Option Value) (T' : State) (L : List Loc), Stand p l e R s m args below meth c T' (locs ++ L) (cells + rm.cells) (slots + rm.slots) → Qc v T'.heap L → Go p e below End Q T' (mkF m (pc + 3) Ls (v.toList ++ rest))) :
    Go p e below End Q T (mkF m pc Ls stk) := by
  subst hst
  obtain ⟨cq, kq, qa, qb, qc⟩ := isOf hZ eT E
  obtain ⟨v, _, ⟨T', L', k', n'⟩, -, X', ⟨Lc, hQ, l1, y1, z1⟩, st⟩ := X.virtualBackUp hx (x := y) (y := z) hown (mvT hZ wl) (mvT hZ wsm) (mvT hZ wd) hy (mvT hZ wsel) (mvT hZ win) (backOf (W := W) hM hZ wc wi hf hl) qa qc (g := mkF m pc Ls (argsL.reverse ++ .ref b :: rest)) rfl hsize (Steps.refl _) (argsL := argsL) (rest := rest) hlen rfl (by show 2 * 0 + _ ≤ _; rw [Nat.mul_zero, Nat.zero_add]; exact hW) hd (fun _ _ => ⟨ha, eT, hc, hs⟩)
  dsimp only [Pt.U, Pt.locs, Pt.cells, Pt.slots] at X' l1 y1 z1 st hQ
  subst l1 y1 z1
  exact own_go (fun t q => st.trans q) (k v T' Lc X' hQ)
theorem own_callI (X : Stand p l e R s m args below meth c T locs cells slots) (hx : p.tables.exec = Jvm.exec) (hZ : Z.Warmed39 s.vm) {own : String} {index : Nat} {y : MethodName} {bytes : ByteArray} {maxL : Nat} {rm : Room} {as' : Array Value} {Qc : Option Value → Heap → List Loc → Prop} (hy1 : y.name = "<init>")
    (hown : s.vm.findClass own = some m.cls) (wl : (Cond.methodLink own index y).before a0 Z = true) (win : (Cond.instanceMethod y).before a0 Z = true) (wc : (Cond.code y bytes maxL none).before a0 Z = true) (wi : (Cond.initialized y.cls).before a0 Z = true)
    (hy : y.cls ≠ "java/lang/invoke/MethodHandle" ∧ y.cls ≠ "java/lang/invoke/VarHandle")
    (hM : MetFree l y (head1 [Cond.code y bytes maxL none] rm) (fun a U => a = as' ∧ Z.Warmed39 U.vm ∧ U.heap = h) (fun _ _ _ _ _ => True) (fun _ U o U' => ∃ v L, o = .returned v ∧ Qc v U'.heap L ∧ FrameEnd U o U' L rm.cells rm.slots))
    (eT : T.heap = h) {b : Addr} {pc : Nat} {Ls : Array Slot} (hsize : Ls.size = c.maxLocals) {argsL rest stk : List Value} (hst : stk = argsL.reverse ++ .ref b :: rest) (ha : (.ref b :: argsL).toArray = as') (hlen : ∀ sig, parseMethodDescriptor y.desc = some sig → argsL.length = sig.parameters.length) {W : Nat} (hW : (rest.map fun v => v.category).sum ≤ W)
    (hf : rm.frames + 1 ≤ R.frames) (hl : W + (maxL + 11) + rm.locals ≤ R.locals) (hd : decode c.code pc = .ok (.invokespecial index, 3)) (hc : cells + rm.cells ≤ R.cells) (hs : slots + rm.slots ≤ R.slots)
    (k : ∀ (v : Option Value) (T' : State) (L : List Loc), Stand p l e R s m args below meth c T' (locs ++ L) (cells + rm.cells) (slots + rm.slots) → Qc v T'.heap L → Go p e below End Q T' (mkF m (pc + 3) Ls (v.toList ++ rest))) :
    Go p e below End Q T (mkF m pc Ls stk) := by
  subst hst
  obtain ⟨v, _, ⟨T', L', k', n'⟩, -, X', ⟨Lc, hQ, l1, y1, z1⟩, st⟩ := X.specialBack hx (y := y) hy1 hown (mvT hZ wl) (mvT hZ win) (mvT hZ wc) hy (backOf (W := W) hM hZ wc wi hf hl) (g := mkF m pc Ls (argsL.reverse ++ .ref b :: rest)) rfl hsize (Steps.refl _) (a := b) (argsL := argsL) (rest := rest) hlen rfl (by show 2 * 0 + _ ≤ _; rw [Nat.mul_zero, Nat.zero_add]; exact hW) hd (fun _ _ => ⟨ha, eT, hc, hs⟩)
  dsimp only [Pt.U, Pt.locs, Pt.cells, Pt.slots] at X' l1 y1 z1 st hQ
  subst l1 y1 z1
  exact own_go (fun t q => st.trans q) (k v T' Lc X' hQ)
theorem own_eqI {ar : Array Value} {t : Term} {k : Int32} (hx : (Cond.eq t (.int k)).value ar Z none Z [] = some true) : t.eval ar Z none [] Z = some (.int k) := by
  obtain ⟨x, y, e1, e2, k1, -⟩ := cmp_v (Or.inl hx)
  have e3 : y = .int k := Option.some.inj (e2.symm.trans (Term.int_eval k))
  subst e3
  cases x with
  | int z =>
    have := gotT (Cond.eq_ints e1 e2) hx
    subst this
    exact e1
  | _ => simp [Kin, Value.isRef] at k1
theorem own_fld {ar : Array Value} {t : Term} {w : Addr} {O n d : String} {k : Int32} (ev : t.eval ar Z none [] Z = some (.ref w)) (hx : (Cond.eq (.field t O n d) (.int k)).value ar Z none Z [] = some true) : Fld Z Z.heap w O n d (.int k) :=
  Fld.start ((fld_at (C := O) (n := n) (dd := d) ev).symm.trans (own_eqI hx))
theorem own_len {ar : Array Value} {t : Term} {a : Addr} {cl : Cell} {k : Int32} {n : Nat} (ev : t.eval ar Z none [] Z = some (.ref a)) (hat : Z.arrayAt? a = some cl) (hL : (Cond.eq (.length t) (.int k)).value ar Z none Z [] = some true) (hk : k.toInt = n) : cl.slots.size = n ∧ cl.slots.size < 2 ^ 31 := by
  by_cases hs : cl.slots.size < 2 ^ 31
  · have e1 := len_f (t := t) ev hat hs
    have e2 := own_eqI hL
    have e3 : cl.slots.size.toInt32 = k := Value.int.inj (Option.some.inj (e1.symm.trans e2))
    have e4 := len_toInt hs
    rw [e3, hk] at e4
    exact ⟨by omega, hs⟩
  · have e2 := own_eqI hL
    simp [Term.eval, ev, hat, hs] at e2
theorem own_ne_fld {a b : Addr} {Cn n d : String} {v w : Value} (F : Fld Z h a Cn n d v) (G : Fld Z h b Cn n d w) (hn : v ≠ w) : ¬ a = b := by
  rintro rfl
  obtain ⟨c1, cf1, k1, i1, f1, h1, h2, -, -, -, -, h7⟩ := F
  obtain ⟨c2, cf2, k2, i2, f2, g1, g2, -, -, -, -, g7⟩ := G
  cases h1.symm.trans g1
  cases h2.symm.trans g2
  cases h7.symm.trans g7
  exact hn rfl
theorem own_sta_keep {h h' : Heap} {ws : List Addr} {Cn n d : String} {v : Value} (F : Sta Z h Cn n d v) (K : Keep h h' ws) (hws : ∀ a ∈ ws, ∃ C', Exa Z h a C') : Sta Z h' Cn n d v := by
  obtain ⟨cf, i, k, f, st, cell, h1, h2, h3, h4, h5, h6, h7⟩ := F
  refine ⟨cf, i, k, f, st, cell, h1, h2, h3, h4, K.2.1 st cell h5 (fun q => ?_), h6, h7⟩
  obtain ⟨C', cell', k', e1, -, -, e4, -⟩ := hws st q
  cases h5.symm.trans e1
  rw [h6] at e4; cases e4
/-- the class named c has no superclass named K (itself neither) -/
def OwnNsub (Z : State) (c K : String) : Prop := ∀ (ci ki : ClassId), Z.vm.findClass c = some ci → Z.vm.findClass K = some ki → ∀ fuel, Z.vm.isSubclassAux fuel ci ki = false
theorem own_id_ne {c K : String} {ci ki : ClassId} (h1 : Z.vm.findClass c = some ci) (h2 : Z.vm.findClass K = some ki) (hn : c ≠ K) : (ci == ki) = false := by
  rw [beq_eq_false_iff_ne]
  rintro rfl
  obtain ⟨k1, a1, b1⟩ := Vm.findClass_spec h1
  obtain ⟨k2, a2, b2⟩ := Vm.findClass_spec h2
  cases a1.symm.trans a2
  exact hn (b1.symm.trans b2)
theorem own_nsub_root {c K : String} (w : (Cond.noSuperclass c).before a0 Z = true) (hn : c ≠ K) : OwnNsub Z c K := by
  intro ci ki h1 h2 fuel
  cases fuel with
  | zero => rfl
  | succ n =>
    obtain ⟨k1, a1, b1⟩ := Vm.findClass_spec h1
    have hs := Cond.noSuperclass_root w ci k1 h1 a1
    simp [Vm.isSubclassAux, own_id_ne h1 h2 hn, a1, hs]
theorem own_nsub_up {c d K : String} (w : (Cond.superclass c d).before a0 Z = true) (hn : c ≠ K) (N : OwnNsub Z d K) : OwnNsub Z c K := by
  intro ci ki h1 h2 fuel
  cases fuel with
  | zero => rfl
  | succ n =>
    obtain ⟨pi, k, kp, g1, g2, g3, g4, -⟩ := Cond.superclass_spec h1 w
    simp [Vm.isSubclassAux, own_id_ne h1 h2 hn, g2, g4, N pi ki g1 h2 n]
theorem own_nins {a : Addr} {c d K : String} {kk : Nat} (E : Exa Z h a c) (wi : (Cond.instantiable K kk).before a0 Z = true) (wsup : (Cond.superclass c d).before a0 Z = true) (hn : c ≠ K) (N : OwnNsub Z c K) : Ins Z h a K false := by
  obtain ⟨cell, k, h1, h2, h3, h4, -⟩ := E
  obtain ⟨ki, kt, i1, i2, i3, i4, -⟩ := Cond.instantiable_spec wi
  obtain ⟨pi, k', kp, g1, g2, g3, g4, g5, -⟩ := Cond.superclass_spec h2 wsup
  cases h3.symm.trans g2
  refine ⟨cell, ki, h1, i1, ?_⟩
  have hif : kt.isInterface = false := by simp only [Bool.or_eq_false_iff] at i4; exact i4.1
  simp [h4, Vm.assignable, Vm.assignableAux, own_id_ne h2 i1 hn, h3, i2, g5, i3, hif, Vm.isSubclass, N cell.cls ki h2 i1]
end OwnGo
theorem own_int {i j : Int32} (h : i.toInt = j.toInt) : i = j := Int32.toInt_inj.mp h
theorem own_and3 (x : Int32) : (x &&& (3 : Int32)) = 0 ∨ (x &&& (3 : Int32)) = 1 ∨ (x &&& (3 : Int32)) = 2 ∨ (x &&& (3 : Int32)) = 3 := by
  have h := c_and x (3 : Int32) (by decide)
  have h3 : (3 : Int32).toInt = 3 := by decide
  rw [h3] at h
  generalize (x &&& (3 : Int32)) = i at h
  have q : i.toInt = 0 ∨ i.toInt = 1 ∨ i.toInt = 2 ∨ i.toInt = 3 := by omega
  rcases q with q | q | q | q
  · exact Or.inl (own_int q)
  · exact Or.inr (Or.inl (own_int q))
  · exact Or.inr (Or.inr (Or.inl (own_int q)))
  · exact Or.inr (Or.inr (Or.inr (own_int q)))
theorem own_and1 (x : Int32) : (x &&& (1 : Int32)) = 0 ∨ (x &&& (1 : Int32)) = 1 := by
  have h := c_and x (1 : Int32) (by decide)
  have h3 : (1 : Int32).toInt = 1 := by decide
  rw [h3] at h
  generalize (x &&& (1 : Int32)) = i at h
  have q : i.toInt = 0 ∨ i.toInt = 1 := by omega
  rcases q with q | q
  · exact Or.inl (own_int q)
  · exact Or.inr (own_int q)
theorem own_rem6 (x : Int32) : ((x &&& (2147483647 : Int32)) % (6 : Int32)) = 0 ∨ ((x &&& (2147483647 : Int32)) % (6 : Int32)) = 1 ∨ ((x &&& (2147483647 : Int32)) % (6 : Int32)) = 2 ∨ ((x &&& (2147483647 : Int32)) % (6 : Int32)) = 3 ∨ ((x &&& (2147483647 : Int32)) % (6 : Int32)) = 4 ∨ ((x &&& (2147483647 : Int32)) % (6 : Int32)) = 5 := by
  have h := (c_and x (2147483647 : Int32) (by decide)).1
  generalize (x &&& (2147483647 : Int32)) = y at h
  have h2 := (c_irem y (6 : Int32) 6 (by decide)).1 h
  generalize (y % (6 : Int32)) = i at h2
  have q : i.toInt = 0 ∨ i.toInt = 1 ∨ i.toInt = 2 ∨ i.toInt = 3 ∨ i.toInt = 4 ∨ i.toInt = 5 := by omega
  rcases q with q | q | q | q | q | q
  · exact Or.inl (own_int q)
  · exact Or.inr (Or.inl (own_int q))
  · exact Or.inr (Or.inr (Or.inl (own_int q)))
  · exact Or.inr (Or.inr (Or.inr (Or.inl (own_int q))))
  · exact Or.inr (Or.inr (Or.inr (Or.inr (Or.inl (own_int q)))))
  · exact Or.inr (Or.inr (Or.inr (Or.inr (Or.inr (own_int q)))))
theorem own_rem5 (x : Int32) : ((x &&& (2147483647 : Int32)) % (5 : Int32)) = 0 ∨ ((x &&& (2147483647 : Int32)) % (5 : Int32)) = 1 ∨ ((x &&& (2147483647 : Int32)) % (5 : Int32)) = 2 ∨ ((x &&& (2147483647 : Int32)) % (5 : Int32)) = 3 ∨ ((x &&& (2147483647 : Int32)) % (5 : Int32)) = 4 := by
  have h := (c_and x (2147483647 : Int32) (by decide)).1
  generalize (x &&& (2147483647 : Int32)) = y at h
  have h2 := (c_irem y (5 : Int32) 5 (by decide)).1 h
  generalize (y % (5 : Int32)) = i at h2
  have q : i.toInt = 0 ∨ i.toInt = 1 ∨ i.toInt = 2 ∨ i.toInt = 3 ∨ i.toInt = 4 := by omega
  rcases q with q | q | q | q | q
  · exact Or.inl (own_int q)
  · exact Or.inr (Or.inl (own_int q))
  · exact Or.inr (Or.inr (Or.inl (own_int q)))
  · exact Or.inr (Or.inr (Or.inr (Or.inl (own_int q))))
  · exact Or.inr (Or.inr (Or.inr (Or.inr (own_int q))))
theorem own_and2 (x : Int32) : (x &&& (2 : Int32)) = 0 ∨ (x &&& (2 : Int32)) = 2 := by
  have h : (x &&& (2 : Int32)) = (x &&& (3 : Int32)) &&& (2 : Int32) := by rw [Int32.and_assoc]; rfl
  rw [h]
  rcases own_and3 x with q | q | q | q <;> rw [q] <;> decide

def OwnCache (Z : State) (h : Heap) (ca : Addr) : Prop := ∃ cl : Cell, Arr Z h ca cl (.object "java/lang/Integer") ∧ cl.slots.size = 256 ∧ ∀ i, i < 256 → ∃ b, cl.slots[i]? = some (.ref b) ∧ Exa Z h b "java/lang/Integer"
section OwnC
variable {Z : State} {h h' : Heap} {ca a : Addr} {sl : Nat} {v : Value} {ws : List Addr}
theorem OwnCache.lt (F : OwnCache Z h ca) : ca < h.size := by obtain ⟨cl, A, -⟩ := F; exact A.lt
theorem OwnCache.ext (F : OwnCache Z h ca) (E : Ext h h') : OwnCache Z h' ca := by
  obtain ⟨cl, A, s, g⟩ := F
  exact ⟨cl, A.ext E, s, fun i hi => by obtain ⟨b, q, e⟩ := g i hi; exact ⟨b, q, e.ext E⟩⟩
theorem OwnCache.other (F : OwnCache Z h ca) (W : Wr h h' a sl v) (q : ¬ ca = a) : OwnCache Z h' ca := by
  obtain ⟨cl, A, s, g⟩ := F
  exact ⟨cl, A.other W q, s, fun i hi => by obtain ⟨b, q, e⟩ := g i hi; exact ⟨b, q, e.wr W⟩⟩
theorem OwnCache.keep (F : OwnCache Z h ca) (K : Keep h h' ws) (q : ca ∉ ws) : OwnCache Z h' ca := by
  obtain ⟨cl, A, s, g⟩ := F
  exact ⟨cl, ⟨K.2.1 ca cl A.1 q, A.2⟩, s, fun i hi => by obtain ⟨b, q, e⟩ := g i hi; exact ⟨b, q, e.keep K⟩⟩
theorem own_cidx (p1 : Int32) (h1 : ¬ p1 < (-128 : Int32)) (h2 : ¬ (127 : Int32) < p1) : ¬ (p1 + (128 : Int32)) < 0 ∧ (p1 + (128 : Int32)).toNatClampNeg < 256 := by
  have k1 : (-128 : Int32).toInt = -128 := by decide
  have k2 : (127 : Int32).toInt = 127 := by decide
  have k3 : (128 : Int32).toInt = 128 := by decide
  have k4 : (0 : Int32).toInt = 0 := by decide
  rw [Int32.lt_iff_toInt_lt, k1] at h1
  rw [Int32.lt_iff_toInt_lt, k2] at h2
  have e : (p1 + (128 : Int32)).toInt = p1.toInt + 128 := by
    rw [Int32.toInt_add, k3]
    exact Int.bmod_eq_of_le (by omega) (by omega)
  refine ⟨by rw [Int32.lt_iff_toInt_lt, k4, e]; omega, ?_⟩
  have q : (p1 + (128 : Int32)).toNatClampNeg = (p1 + (128 : Int32)).toInt.toNat := rfl
  rw [q, e]; omega
theorem own_high {args : Array Value} {C n d : String} {k : Int32} (hx : (Cond.eq (.static C n d) (.int k)).value args Z none Z [] = some true) : (Term.static C n d).eval args Z none [] Z = some (.int k) := own_eqI hx
theorem own_elem {args : Array Value} {C n d : String} {cl : Cell} {i : Nat} {v : Value} (eca : (Term.static C n d).eval args Z none [] Z = some (.ref ca)) (hc : Z.heap[ca]? = some cl) (hi : i < 2147483648) (h : (Term.elem (Term.static C n d) (.index 0)).eval args Z none [i] Z = some v) : cl.slots[i]? = some v := by
  have eT : (Term.static C n d).eval args Z none [i] Z = some (.ref ca) := eca
  have ei : (Term.index 0).eval args Z none [i] Z = some (.int i.toInt32) := rfl
  have q := (elem_in h eT ei hc).2
  have e : i.toInt32.toNatClampNeg = i := by
    have e1 : i.toInt32.toNatClampNeg = i.toInt32.toInt.toNat := rfl
    rw [e1, len_toInt hi]; rfl
  rw [e] at q
  exact q
theorem own_exat {args : Array Value} {t : Term} {C : String} {idx : List Nat} (hx : (Cond.exactly t C).value args Z none Z idx = some true) : ∃ b, t.eval args Z none idx Z = some (.ref b) ∧ Exa Z Z.heap b C := by
  obtain ⟨a', c', cell, k, e1, e2, e3, e4, e5, rfl, e7⟩ := Cond.exactly_spec (beq_iff_eq.mpr hx : (Cond.exactly t C).holds args Z none Z idx = true)
  exact ⟨a', e1, cell, k, e3, e2, e4, e5, e7⟩
theorem own_cache {args : Array Value} {C n d : String} {c2 : Cond} (eca : (Term.static C n d).eval args Z none [] Z = some (.ref ca)) (hA : (Cond.arrayOf (Term.static C n d) (.object "java/lang/Integer")).value args Z none Z [] = some true)
    (hL : (Cond.eq (.length (Term.static C n d)) (.int 256)).value args Z none Z [] = some true) (hAll : (Cond.all (Term.static C n d) (.and (.exactly (.elem (Term.static C n d) (.index 0)) "java/lang/Integer") c2)).value args Z none Z [] = some true) : OwnCache Z Z.heap ca := by
  obtain ⟨cl, A⟩ := Arr.start eca hA
  have hat : Z.arrayAt? ca = some cl := Arr.fin (Vm.Alike.refl _) A
  obtain ⟨hsz, -⟩ := own_len (n := 256) eca hat hL (by decide)
  refine ⟨cl, A, hsz, fun i hi => ?_⟩
  have hel := Cond.all_elim eca hat hAll i (by omega)
  obtain ⟨g1, -⟩ := and_e hel
  obtain ⟨b, e, E⟩ := own_exat g1
  exact ⟨b, own_elem eca A.1 (by omega) e, E⟩
end OwnC

def OwnQ_rm1 (Z : State) (a1 : Addr) (p1 : Int32) (p2 : Int64) (p3 : Int32) (p4 : Int32) (h0 : Heap) (n0 : Nat) (v : Option Value) (h : Heap) (L : List Loc) : Prop := v = none ∧ Fr n0 L ∧ Keep h0 h [a1] ∧ Exa Z h a1 "com/example/term_weight_evolver/termweightevolver/constraints/Probe" ∧ Fld Z h a1 "com/example/term_weight_evolver/termweightevolver/constraints/Probe" "df" "I" (.int p1) ∧ Fld Z h a1 "com/example/term_weight_evolver/termweightevolver/constraints/Probe" "cf" "J" (.long p2) ∧ Fld Z h a1 "com/example/term_weight_evolver/termweightevolver/constraints/Probe" "tf" "I" (.int p3) ∧ Fld Z h a1 "com/example/term_weight_evolver/termweightevolver/constraints/Probe" "dl" "I" (.int p4)
theorem d_prog_5_method_1_0 : Jvm.ClassFile.decode prog_5_method_1_code 0 = .ok (.aload_n 0, 1) := by decide +kernel
theorem d_prog_5_method_1_1 : Jvm.ClassFile.decode prog_5_method_1_code 1 = .ok (.invokespecial 1, 3) := by decide +kernel
theorem d_prog_5_method_1_4 : Jvm.ClassFile.decode prog_5_method_1_code 4 = .ok (.aload_n 0, 1) := by decide +kernel
theorem d_prog_5_method_1_5 : Jvm.ClassFile.decode prog_5_method_1_code 5 = .ok (.iload_n 1, 1) := by decide +kernel
theorem d_prog_5_method_1_6 : Jvm.ClassFile.decode prog_5_method_1_code 6 = .ok (.putfield 7, 3) := by decide +kernel
theorem d_prog_5_method_1_9 : Jvm.ClassFile.decode prog_5_method_1_code 9 = .ok (.aload_n 0, 1) := by decide +kernel
theorem d_prog_5_method_1_10 : Jvm.ClassFile.decode prog_5_method_1_code 10 = .ok (.lload_n 2, 1) := by decide +kernel
theorem d_prog_5_method_1_11 : Jvm.ClassFile.decode prog_5_method_1_code 11 = .ok (.putfield 13, 3) := by decide +kernel
theorem d_prog_5_method_1_14 : Jvm.ClassFile.decode prog_5_method_1_code 14 = .ok (.aload_n 0, 1) := by decide +kernel
theorem d_prog_5_method_1_15 : Jvm.ClassFile.decode prog_5_method_1_code 15 = .ok (.iload 4, 2) := by decide +kernel
theorem d_prog_5_method_1_17 : Jvm.ClassFile.decode prog_5_method_1_code 17 = .ok (.putfield 17, 3) := by decide +kernel
theorem d_prog_5_method_1_20 : Jvm.ClassFile.decode prog_5_method_1_code 20 = .ok (.aload_n 0, 1) := by decide +kernel
theorem d_prog_5_method_1_21 : Jvm.ClassFile.decode prog_5_method_1_code 21 = .ok (.iload 5, 2) := by decide +kernel
theorem d_prog_5_method_1_23 : Jvm.ClassFile.decode prog_5_method_1_code 23 = .ok (.putfield 20, 3) := by decide +kernel
theorem d_prog_5_method_1_26 : Jvm.ClassFile.decode prog_5_method_1_code 26 = .ok (.return_, 1) := by decide +kernel
theorem own_pn0 : plainName "com/example/term_weight_evolver/termweightevolver/constraints/Probe" = true := by first | (simp [plainName, overriddenIn]; done) | decide +kernel
theorem own_ef_rm1 (m : MethodId) (x0 : Addr) (x1 : Int32) (x2 : Int64) (x3 : Int32) (x4 : Int32) : entryFrame m #[(.ref x0), (.int x1), (.long x2), (.int x3), (.int x4)] 6 = mkF m 0 #[.val (.ref x0), .val (.int x1), .val (.long x2), .second, .val (.int x3), .val (.int x4)] [] := by first | (simp [entryFrame, mkF, argsToLocals, Value.category]; done) | rfl
set_option maxRecDepth 65536 in
set_option maxHeartbeats 40000000 in
theorem rm1 (l : Launch) (Z : State) (a0 : Array Value) (hw : ∀ d ∈ tables_1, d.before a0 Z = true) (ws : List Jvm.Cond) (a1 : Addr) (p1 : Int32) (p2 : Int64) (p3 : Int32) (p4 : Int32) (h0 : Heap) (n0 : Nat) (hn0 : n0 ≤ h0.size) (E_a1 : Exa Z h0 a1 "com/example/term_weight_evolver/termweightevolver/constraints/Probe") (g_a1 : n0 ≤ a1) (F_df : Fld Z h0 a1 "com/example/term_weight_evolver/termweightevolver/constraints/Probe" "df" "I" (.int (0 : Int32))) (F_cf : Fld Z h0 a1 "com/example/term_weight_evolver/termweightevolver/constraints/Probe" "cf" "J" (.long (0 : Int64))) (F_tf : Fld Z h0 a1 "com/example/term_weight_evolver/termweightevolver/constraints/Probe" "tf" "I" (.int (0 : Int32))) (F_dl : Fld Z h0 a1 "com/example/term_weight_evolver/termweightevolver/constraints/Probe" "dl" "I" (.int (0 : Int32))) :
    OwnMet l Z (⟨"com/example/term_weight_evolver/termweightevolver/constraints/Probe", "<init>", "(IJII)V"⟩ : MethodName) prog_5_method_1_code 6 none ws ({ frames := 1, cells := 0, slots := 0, locals := 12 } : Room) #[(.ref a1), (.int p1), (.long p2), (.int p3), (.int p4)] h0 (OwnQ_rm1 Z a1 p1 p2 p3 p4 h0 n0) := by
  refine own_body (plainFor_of_name own_pn0) ?_
  intro p e s m below meth c s₁ X0 hx hby hml hret hlk hown0 hnm hZ e0 hs0
  have hown : s.vm.findClass "com/example/term_weight_evolver/termweightevolver/constraints/Probe" = some m.cls := hown0
  have N0 := Fr.nil n0
  refine own_entry (own_ef_rm1 m a1 p1 p2 p3 p4) ?_
  have K0 := Keep.refl h0 [a1]
  show Go _ _ _ _ _ s₁ (mkF m 0 #[.val (.ref a1), .val (.int p1), .val (.long p2), .second, .val (.int p3), .val (.int p4)] [])
  refine own_go (fun t k => XS.aloadN X0.here hx rfl (hb hby d_prog_5_method_1_0) rfl rfl k) ?_
  show Go _ _ _ _ _ s₁ (mkF m 1 #[.val (.ref a1), .val (.int p1), .val (.long p2), .second, .val (.int p3), .val (.int p4)] [(.ref a1)])
  obtain ⟨T1, X1, e1, st1⟩ := initO X0 hx hZ hown (hw _ (List.mem_of_getElem? (i := 6) rfl)) (hw _ (List.mem_of_getElem? (i := 7) rfl)) (hw _ (List.mem_of_getElem? (i := 8) rfl)) e0 (g := (mkF m 1 #[.val (.ref a1), .val (.int p1), .val (.long p2), .second, .val (.int p3), .val (.int p4)] [(.ref a1)])) rfl (by rw [hml]; rfl) rfl (hb hby d_prog_5_method_1_1) (by decide) (W := 0) (by show 2 * 0 + _ ≤ _; exact Nat.le_of_eq rfl) (by decide)
  refine own_go (fun t k => st1 t k) ?_
  show Go _ _ _ _ _ T1 (mkF m 4 #[.val (.ref a1), .val (.int p1), .val (.long p2), .second, .val (.int p3), .val (.int p4)] [])
  refine own_go (fun t k => XS.aloadN X1.here hx rfl (hb hby d_prog_5_method_1_4) rfl rfl k) ?_
  show Go _ _ _ _ _ T1 (mkF m 5 #[.val (.ref a1), .val (.int p1), .val (.long p2), .second, .val (.int p3), .val (.int p4)] [(.ref a1)])
  refine own_go (fun t k => XS.iloadN X1.here hx rfl (hb hby d_prog_5_method_1_5) rfl k) ?_
  show Go _ _ _ _ _ T1 (mkF m 6 #[.val (.ref a1), .val (.int p1), .val (.long p2), .second, .val (.int p3), .val (.int p4)] [(.int p1), (.ref a1)])
  obtain ⟨T2, h2, X2, e2, W2, st2⟩ := putF X1 hx hZ hown (host := "") (Or.inl (hw _ (List.mem_of_getElem? (i := 9) rfl))) Via.refl e1 F_df E_a1 (Or.inr ⟨(hw _ (List.mem_of_getElem? (i := 10) rfl)), rfl, hnm⟩) (hw _ (List.mem_of_getElem? (i := 1) rfl)) (ty := .int) (by decide) rfl rfl (g := (mkF m 6 #[.val (.ref a1), .val (.int p1), .val (.long p2), .second, .val (.int p3), .val (.int p4)] [(.int p1), (.ref a1)])) rfl rfl (hb hby d_prog_5_method_1_6)
  replace E_a1 := E_a1.wr W2
  replace F_df := F_df.same W2
  replace F_cf := F_cf.other W2 (Or.inr (slot_ne (Or.inr (hw _ (List.mem_of_getElem? (i := 12) rfl))) (Or.inr (hw _ (List.mem_of_getElem? (i := 10) rfl))) (by decide) (t := .long) (t' := .int) (by decide) (by decide)))
  replace F_tf := F_tf.other W2 (Or.inr (slot_ne (Or.inr (hw _ (List.mem_of_getElem? (i := 14) rfl))) (Or.inr (hw _ (List.mem_of_getElem? (i := 10) rfl))) (by decide) (t := .int) (t' := .int) (by decide) (by decide)))
  replace F_dl := F_dl.other W2 (Or.inr (slot_ne (Or.inr (hw _ (List.mem_of_getElem? (i := 16) rfl))) (Or.inr (hw _ (List.mem_of_getElem? (i := 10) rfl))) (by decide) (t := .int) (t' := .int) (by decide) (by decide)))
  have N2 := Fr.snoc X2 N0 g_a1
  have hn2 : n0 ≤ h2.size := Nat.le_trans hn0 (Keep.of_wr W2).1
  have K2 := K0.wr W2 (Or.inl (List.mem_of_getElem? (i := 0) rfl))
  refine own_go (fun t k => st2 t k) ?_
  show Go _ _ _ _ _ T2 (mkF m 9 #[.val (.ref a1), .val (.int p1), .val (.long p2), .second, .val (.int p3), .val (.int p4)] [])
  refine own_go (fun t k => XS.aloadN X2.here hx rfl (hb hby d_prog_5_method_1_9) rfl rfl k) ?_
  show Go _ _ _ _ _ T2 (mkF m 10 #[.val (.ref a1), .val (.int p1), .val (.long p2), .second, .val (.int p3), .val (.int p4)] [(.ref a1)])
  refine own_go (fun t k => XS.lloadN X2.here hx rfl (hb hby d_prog_5_method_1_10) rfl k) ?_
  show Go _ _ _ _ _ T2 (mkF m 11 #[.val (.ref a1), .val (.int p1), .val (.long p2), .second, .val (.int p3), .val (.int p4)] [(.long p2), (.ref a1)])
  obtain ⟨T3, h3, X3, e3, W3, st3⟩ := putF X2 hx hZ hown (host := "") (Or.inl (hw _ (List.mem_of_getElem? (i := 11) rfl))) Via.refl e2 F_cf E_a1 (Or.inr ⟨(hw _ (List.mem_of_getElem? (i := 12) rfl)), rfl, hnm⟩) (hw _ (List.mem_of_getElem? (i := 1) rfl)) (ty := .long) (by decide) rfl rfl (g := (mkF m 11 #[.val (.ref a1), .val (.int p1), .val (.long p2), .second, .val (.int p3), .val (.int p4)] [(.long p2), (.ref a1)])) rfl rfl (hb hby d_prog_5_method_1_11)
  replace E_a1 := E_a1.wr W3
  replace F_df := F_df.other W3 (Or.inr (slot_ne (Or.inr (hw _ (List.mem_of_getElem? (i := 10) rfl))) (Or.inr (hw _ (List.mem_of_getElem? (i := 12) rfl))) (by decide) (t := .int) (t' := .long) (by decide) (by decide)))
  replace F_cf := F_cf.same W3
  replace F_tf := F_tf.other W3 (Or.inr (slot_ne (Or.inr (hw _ (List.mem_of_getElem? (i := 14) rfl))) (Or.inr (hw _ (List.mem_of_getElem? (i := 12) rfl))) (by decide) (t := .int) (t' := .long) (by decide) (by decide)))
  replace F_dl := F_dl.other W3 (Or.inr (slot_ne (Or.inr (hw _ (List.mem_of_getElem? (i := 16) rfl))) (Or.inr (hw _ (List.mem_of_getElem? (i := 12) rfl))) (by decide) (t := .int) (t' := .long) (by decide) (by decide)))
  have N3 := Fr.snoc X3 N2 g_a1
  have hn3 : n0 ≤ h3.size := Nat.le_trans hn2 (Keep.of_wr W3).1
  have K3 := K2.wr W3 (Or.inl (List.mem_of_getElem? (i := 0) rfl))
  refine own_go (fun t k => st3 t k) ?_
  show Go _ _ _ _ _ T3 (mkF m 14 #[.val (.ref a1), .val (.int p1), .val (.long p2), .second, .val (.int p3), .val (.int p4)] [])
  refine own_go (fun t k => XS.aloadN X3.here hx rfl (hb hby d_prog_5_method_1_14) rfl rfl k) ?_
  show Go _ _ _ _ _ T3 (mkF m 15 #[.val (.ref a1), .val (.int p1), .val (.long p2), .second, .val (.int p3), .val (.int p4)] [(.ref a1)])
  refine own_go (fun t k => XS.iload X3.here hx rfl (hb hby d_prog_5_method_1_15) rfl k) ?_
  show Go _ _ _ _ _ T3 (mkF m 17 #[.val (.ref a1), .val (.int p1), .val (.long p2), .second, .val (.int p3), .val (.int p4)] [(.int p3), (.ref a1)])
  obtain ⟨T4, h4, X4, e4, W4, st4⟩ := putF X3 hx hZ hown (host := "") (Or.inl (hw _ (List.mem_of_getElem? (i := 13) rfl))) Via.refl e3 F_tf E_a1 (Or.inr ⟨(hw _ (List.mem_of_getElem? (i := 14) rfl)), rfl, hnm⟩) (hw _ (List.mem_of_getElem? (i := 1) rfl)) (ty := .int) (by decide) rfl rfl (g := (mkF m 17 #[.val (.ref a1), .val (.int p1), .val (.long p2), .second, .val (.int p3), .val (.int p4)] [(.int p3), (.ref a1)])) rfl rfl (hb hby d_prog_5_method_1_17)
  replace E_a1 := E_a1.wr W4
  replace F_df := F_df.other W4 (Or.inr (slot_ne (Or.inr (hw _ (List.mem_of_getElem? (i := 10) rfl))) (Or.inr (hw _ (List.mem_of_getElem? (i := 14) rfl))) (by decide) (t := .int) (t' := .int) (by decide) (by decide)))
  replace F_cf := F_cf.other W4 (Or.inr (slot_ne (Or.inr (hw _ (List.mem_of_getElem? (i := 12) rfl))) (Or.inr (hw _ (List.mem_of_getElem? (i := 14) rfl))) (by decide) (t := .long) (t' := .int) (by decide) (by decide)))
  replace F_tf := F_tf.same W4
  replace F_dl := F_dl.other W4 (Or.inr (slot_ne (Or.inr (hw _ (List.mem_of_getElem? (i := 16) rfl))) (Or.inr (hw _ (List.mem_of_getElem? (i := 14) rfl))) (by decide) (t := .int) (t' := .int) (by decide) (by decide)))
  have N4 := Fr.snoc X4 N3 g_a1
  have hn4 : n0 ≤ h4.size := Nat.le_trans hn3 (Keep.of_wr W4).1
  have K4 := K3.wr W4 (Or.inl (List.mem_of_getElem? (i := 0) rfl))
  refine own_go (fun t k => st4 t k) ?_
  show Go _ _ _ _ _ T4 (mkF m 20 #[.val (.ref a1), .val (.int p1), .val (.long p2), .second, .val (.int p3), .val (.int p4)] [])
  refine own_go (fun t k => XS.aloadN X4.here hx rfl (hb hby d_prog_5_method_1_20) rfl rfl k) ?_
  show Go _ _ _ _ _ T4 (mkF m 21 #[.val (.ref a1), .val (.int p1), .val (.long p2), .second, .val (.int p3), .val (.int p4)] [(.ref a1)])
  refine own_go (fun t k => XS.iload X4.here hx rfl (hb hby d_prog_5_method_1_21) rfl k) ?_
  show Go _ _ _ _ _ T4 (mkF m 23 #[.val (.ref a1), .val (.int p1), .val (.long p2), .second, .val (.int p3), .val (.int p4)] [(.int p4), (.ref a1)])
  obtain ⟨T5, h5, X5, e5, W5, st5⟩ := putF X4 hx hZ hown (host := "") (Or.inl (hw _ (List.mem_of_getElem? (i := 15) rfl))) Via.refl e4 F_dl E_a1 (Or.inr ⟨(hw _ (List.mem_of_getElem? (i := 16) rfl)), rfl, hnm⟩) (hw _ (List.mem_of_getElem? (i := 1) rfl)) (ty := .int) (by decide) rfl rfl (g := (mkF m 23 #[.val (.ref a1), .val (.int p1), .val (.long p2), .second, .val (.int p3), .val (.int p4)] [(.int p4), (.ref a1)])) rfl rfl (hb hby d_prog_5_method_1_23)
  replace E_a1 := E_a1.wr W5
  replace F_df := F_df.other W5 (Or.inr (slot_ne (Or.inr (hw _ (List.mem_of_getElem? (i := 10) rfl))) (Or.inr (hw _ (List.mem_of_getElem? (i := 16) rfl))) (by decide) (t := .int) (t' := .int) (by decide) (by decide)))
  replace F_cf := F_cf.other W5 (Or.inr (slot_ne (Or.inr (hw _ (List.mem_of_getElem? (i := 12) rfl))) (Or.inr (hw _ (List.mem_of_getElem? (i := 16) rfl))) (by decide) (t := .long) (t' := .int) (by decide) (by decide)))
  replace F_tf := F_tf.other W5 (Or.inr (slot_ne (Or.inr (hw _ (List.mem_of_getElem? (i := 14) rfl))) (Or.inr (hw _ (List.mem_of_getElem? (i := 16) rfl))) (by decide) (t := .int) (t' := .int) (by decide) (by decide)))
  replace F_dl := F_dl.same W5
  have N5 := Fr.snoc X5 N4 g_a1
  have hn5 : n0 ≤ h5.size := Nat.le_trans hn4 (Keep.of_wr W5).1
  have K5 := K4.wr W5 (Or.inl (List.mem_of_getElem? (i := 0) rfl))
  refine own_go (fun t k => st5 t k) ?_
  show Go _ _ _ _ _ T5 (mkF m 26 #[.val (.ref a1), .val (.int p1), .val (.long p2), .second, .val (.int p3), .val (.int p4)] [])
  refine own_retV X5 hx (own_lvN X5 hlk (by decide) (by decide)) hret (hb hby d_prog_5_method_1_26) ?_
  rw [e5]
  exact ⟨rfl, N5, K5, E_a1, F_df, F_cf, F_tf, F_dl⟩
theorem d_jdk_18_method_1_0 : Jvm.ClassFile.decode jdk_18_method_1_code 0 = .ok (.aload_n 0, 1) := by decide +kernel
theorem d_jdk_18_method_1_1 : Jvm.ClassFile.decode jdk_18_method_1_code 1 = .ok (.invokespecial 1, 3) := by decide +kernel
theorem d_jdk_18_method_1_4 : Jvm.ClassFile.decode jdk_18_method_1_code 4 = .ok (.return_, 1) := by decide +kernel
theorem own_pn1 : plainName "java/lang/Number" = true := by first | (simp [plainName, overriddenIn]; done) | decide +kernel
theorem own_ef_rm6 (m : MethodId) (x0 : Addr) : entryFrame m #[(.ref x0)] 1 = mkF m 0 #[.val (.ref x0)] [] := by first | (simp [entryFrame, mkF, argsToLocals, Value.category]; done) | rfl
set_option maxRecDepth 65536 in
set_option maxHeartbeats 40000000 in
theorem rm6 (l : Launch) (Z : State) (a0 : Array Value) (hw : ∀ d ∈ tables_1, d.before a0 Z = true) (ws : List Jvm.Cond) (a1 : Addr) (h0 : Heap) (n0 : Nat) (hn0 : n0 ≤ h0.size)  :
    OwnMet l Z (⟨"java/lang/Number", "<init>", "()V"⟩ : MethodName) jdk_18_method_1_code 1 none ws ({ frames := 1, cells := 0, slots := 0, locals := 12 } : Room) #[(.ref a1)] h0 (OwnP none h0 n0) := by
  refine own_body (plainFor_of_name own_pn1) ?_
  intro p e s m below meth c s₁ X0 hx hby hml hret hlk hown0 hnm hZ e0 hs0
  have hown : s.vm.findClass "java/lang/Number" = some m.cls := hown0
  have N0 := Fr.nil n0
  refine own_entry (own_ef_rm6 m a1) ?_
  show Go _ _ _ _ _ s₁ (mkF m 0 #[.val (.ref a1)] [])
  refine own_go (fun t k => XS.aloadN X0.here hx rfl (hb hby d_jdk_18_method_1_0) rfl rfl k) ?_
  show Go _ _ _ _ _ s₁ (mkF m 1 #[.val (.ref a1)] [(.ref a1)])
  obtain ⟨T6, X6, e6, st6⟩ := initO X0 hx hZ hown (hw _ (List.mem_of_getElem? (i := 46) rfl)) (hw _ (List.mem_of_getElem? (i := 7) rfl)) (hw _ (List.mem_of_getElem? (i := 8) rfl)) e0 (g := (mkF m 1 #[.val (.ref a1)] [(.ref a1)])) rfl (by rw [hml]; rfl) rfl (hb hby d_jdk_18_method_1_1) (by decide) (W := 0) (by show 2 * 0 + _ ≤ _; exact Nat.le_of_eq rfl) (by decide)
  refine own_go (fun t k => st6 t k) ?_
  show Go _ _ _ _ _ T6 (mkF m 4 #[.val (.ref a1)] [])
  refine own_retV X6 hx (own_lvN X6 hlk (by decide) (by decide)) hret (hb hby d_jdk_18_method_1_4) ?_
  exact ⟨rfl, N0, e6⟩
def OwnQ_rm5 (Z : State) (a1 : Addr) (p1 : Int32) (h0 : Heap) (n0 : Nat) (v : Option Value) (h : Heap) (L : List Loc) : Prop := v = none ∧ Fr n0 L ∧ Keep h0 h [a1] ∧ Exa Z h a1 "java/lang/Integer" ∧ Fld Z h a1 "java/lang/Integer" "value" "I" (.int p1)
theorem d_jdk_33_method_23_0 : Jvm.ClassFile.decode jdk_33_method_23_code 0 = .ok (.aload_n 0, 1) := by decide +kernel
theorem d_jdk_33_method_23_1 : Jvm.ClassFile.decode jdk_33_method_23_code 1 = .ok (.invokespecial 202, 3) := by decide +kernel
theorem own_pd0 : parseMethodDescriptor "()V" = some ⟨[], none⟩ := by decide +kernel
theorem d_jdk_33_method_23_4 : Jvm.ClassFile.decode jdk_33_method_23_code 4 = .ok (.aload_n 0, 1) := by decide +kernel
theorem d_jdk_33_method_23_5 : Jvm.ClassFile.decode jdk_33_method_23_code 5 = .ok (.iload_n 1, 1) := by decide +kernel
theorem d_jdk_33_method_23_6 : Jvm.ClassFile.decode jdk_33_method_23_code 6 = .ok (.putfield 205, 3) := by decide +kernel
theorem d_jdk_33_method_23_9 : Jvm.ClassFile.decode jdk_33_method_23_code 9 = .ok (.return_, 1) := by decide +kernel
theorem own_pn2 : plainName "java/lang/Integer" = true := by first | (simp [plainName, overriddenIn]; done) | decide +kernel
theorem own_ef_rm5 (m : MethodId) (x0 : Addr) (x1 : Int32) : entryFrame m #[(.ref x0), (.int x1)] 2 = mkF m 0 #[.val (.ref x0), .val (.int x1)] [] := by first | (simp [entryFrame, mkF, argsToLocals, Value.category]; done) | rfl
set_option maxRecDepth 65536 in
set_option maxHeartbeats 40000000 in
theorem rm5 (l : Launch) (Z : State) (a0 : Array Value) (hw : ∀ d ∈ tables_1, d.before a0 Z = true) (ws : List Jvm.Cond) (a1 : Addr) (p1 : Int32) (h0 : Heap) (n0 : Nat) (hn0 : n0 ≤ h0.size) (E_a1 : Exa Z h0 a1 "java/lang/Integer") (g_a1 : n0 ≤ a1) (F_value : Fld Z h0 a1 "java/lang/Integer" "value" "I" (.int (0 : Int32))) :
    OwnMet l Z (⟨"java/lang/Integer", "<init>", "(I)V"⟩ : MethodName) jdk_33_method_23_code 2 none ws ({ frames := 2, cells := 0, slots := 0, locals := 24 } : Room) #[(.ref a1), (.int p1)] h0 (OwnQ_rm5 Z a1 p1 h0 n0) := by
  refine own_body (plainFor_of_name own_pn2) ?_
  intro p e s m below meth c s₁ X0 hx hby hml hret hlk hown0 hnm hZ e0 hs0
  have hown : s.vm.findClass "java/lang/Integer" = some m.cls := hown0
  have N0 := Fr.nil n0
  refine own_entry (own_ef_rm5 m a1 p1) ?_
  have K0 := Keep.refl h0 [a1]
  show Go _ _ _ _ _ s₁ (mkF m 0 #[.val (.ref a1), .val (.int p1)] [])
  refine own_go (fun t k => XS.aloadN X0.here hx rfl (hb hby d_jdk_33_method_23_0) rfl rfl k) ?_
  show Go _ _ _ _ _ s₁ (mkF m 1 #[.val (.ref a1), .val (.int p1)] [(.ref a1)])
  refine own_callI X0 hx hZ (y := (⟨"java/lang/Number", "<init>", "()V"⟩ : MethodName)) rfl hown (hw _ (List.mem_of_getElem? (i := 40) rfl)) (hw _ (List.mem_of_getElem? (i := 41) rfl)) (hw _ (List.mem_of_getElem? (i := 45) rfl)) (hw _ (List.mem_of_getElem? (i := 44) rfl)) (by decide) (rm6 l Z a0 hw [] a1 h0 n0 hn0) e0 (b := a1) (by rw [hml]; rfl) (argsL := []) (rest := []) rfl rfl (lenOf own_pd0 rfl) (W := 0) (Nat.le_of_eq rfl) (by decide) (by decide) (hb hby d_jdk_33_method_23_1) (by decide) (by decide) ?_
  intro v7 T7 L7 X7 q7
  obtain ⟨rfl, N7q, e7⟩ := q7
  have N7 := Fr.app N0 N7q
  show Go _ _ _ _ _ T7 (mkF m 4 #[.val (.ref a1), .val (.int p1)] [])
  refine own_go (fun t k => XS.aloadN X7.here hx rfl (hb hby d_jdk_33_method_23_4) rfl rfl k) ?_
  show Go _ _ _ _ _ T7 (mkF m 5 #[.val (.ref a1), .val (.int p1)] [(.ref a1)])
  refine own_go (fun t k => XS.iloadN X7.here hx rfl (hb hby d_jdk_33_method_23_5) rfl k) ?_
  show Go _ _ _ _ _ T7 (mkF m 6 #[.val (.ref a1), .val (.int p1)] [(.int p1), (.ref a1)])
  obtain ⟨T8, h8, X8, e8, W8, st8⟩ := putF X7 hx hZ hown (host := "") (Or.inl (hw _ (List.mem_of_getElem? (i := 47) rfl))) Via.refl e7 F_value E_a1 (Or.inr ⟨(hw _ (List.mem_of_getElem? (i := 48) rfl)), rfl, hnm⟩) (hw _ (List.mem_of_getElem? (i := 35) rfl)) (ty := .int) (by decide) rfl rfl (g := (mkF m 6 #[.val (.ref a1), .val (.int p1)] [(.int p1), (.ref a1)])) rfl rfl (hb hby d_jdk_33_method_23_6)
  replace E_a1 := E_a1.wr W8
  replace F_value := F_value.same W8
  have N8 := Fr.snoc X8 N7 g_a1
  have hn8 : n0 ≤ h8.size := Nat.le_trans hn0 (Keep.of_wr W8).1
  have K8 := K0.wr W8 (Or.inl (List.mem_of_getElem? (i := 0) rfl))
  refine own_go (fun t k => st8 t k) ?_
  show Go _ _ _ _ _ T8 (mkF m 9 #[.val (.ref a1), .val (.int p1)] [])
  refine own_retV X8 hx (own_lvN X8 hlk (by decide) (by decide)) hret (hb hby d_jdk_33_method_23_9) ?_
  rw [e8]
  exact ⟨rfl, N8, K8, E_a1, F_value⟩
def OwnQ_box (Z : State) (h0 : Heap) (n0 : Nat) (v : Option Value) (h : Heap) (L : List Loc) : Prop := ∃ b, v = some (.ref b) ∧ Fr n0 L ∧ Keep h0 h [] ∧ Exa Z h b "java/lang/Integer"
theorem d_jdk_33_method_22_0 : Jvm.ClassFile.decode jdk_33_method_22_code 0 = .ok (.iload_n 0, 1) := by decide +kernel
theorem d_jdk_33_method_22_1 : Jvm.ClassFile.decode jdk_33_method_22_code 1 = .ok (.bipush (-128), 2) := by decide +kernel
theorem d_jdk_33_method_22_3 : Jvm.ClassFile.decode jdk_33_method_22_code 3 = .ok (.if_icmp .lt 20, 3) := by decide +kernel
theorem d_jdk_33_method_22_23 : Jvm.ClassFile.decode jdk_33_method_22_code 23 = .ok (.new 1, 3) := by decide +kernel
theorem d_jdk_33_method_22_26 : Jvm.ClassFile.decode jdk_33_method_22_code 26 = .ok (.dup, 1) := by decide +kernel
theorem d_jdk_33_method_22_27 : Jvm.ClassFile.decode jdk_33_method_22_code 27 = .ok (.iload_n 0, 1) := by decide +kernel
theorem d_jdk_33_method_22_28 : Jvm.ClassFile.decode jdk_33_method_22_code 28 = .ok (.invokespecial 199, 3) := by decide +kernel
theorem own_pd1 : parseMethodDescriptor "(I)V" = some ⟨[.int], none⟩ := by decide +kernel
theorem d_jdk_33_method_22_31 : Jvm.ClassFile.decode jdk_33_method_22_code 31 = .ok (.areturn, 1) := by decide +kernel
theorem d_jdk_33_method_22_6 : Jvm.ClassFile.decode jdk_33_method_22_code 6 = .ok (.iload_n 0, 1) := by decide +kernel
theorem d_jdk_33_method_22_7 : Jvm.ClassFile.decode jdk_33_method_22_code 7 = .ok (.getstatic 191, 3) := by decide +kernel
theorem d_jdk_33_method_22_10 : Jvm.ClassFile.decode jdk_33_method_22_code 10 = .ok (.if_icmp .gt 13, 3) := by decide +kernel
theorem d_jdk_33_method_22_13 : Jvm.ClassFile.decode jdk_33_method_22_code 13 = .ok (.getstatic 195, 3) := by decide +kernel
theorem d_jdk_33_method_22_16 : Jvm.ClassFile.decode jdk_33_method_22_code 16 = .ok (.iload_n 0, 1) := by decide +kernel
theorem d_jdk_33_method_22_17 : Jvm.ClassFile.decode jdk_33_method_22_code 17 = .ok (.sipush 128, 3) := by decide +kernel
theorem d_jdk_33_method_22_20 : Jvm.ClassFile.decode jdk_33_method_22_code 20 = .ok (.iadd, 1) := by decide +kernel
theorem d_jdk_33_method_22_21 : Jvm.ClassFile.decode jdk_33_method_22_code 21 = .ok (.aaload, 1) := by decide +kernel
theorem d_jdk_33_method_22_22 : Jvm.ClassFile.decode jdk_33_method_22_code 22 = .ok (.areturn, 1) := by decide +kernel
theorem own_ef_rm3 (m : MethodId) (x0 : Int32) : entryFrame m #[(.int x0)] 1 = mkF m 0 #[.val (.int x0)] [] := by first | (simp [entryFrame, mkF, argsToLocals, Value.category]; done) | rfl
set_option maxRecDepth 65536 in
set_option maxHeartbeats 40000000 in
theorem rm3 (l : Launch) (Z : State) (a0 : Array Value) (hw : ∀ d ∈ tables_1, d.before a0 Z = true) (ws : List Jvm.Cond) (p1 : Int32) (ca : Addr) (h0 : Heap) (n0 : Nat) (hn0 : n0 ≤ h0.size) (S_high : Sta Z h0 "java/lang/Integer$IntegerCache" "high" "I" (.int (127 : Int32))) (S_cache : Sta Z h0 "java/lang/Integer$IntegerCache" "cache" "[Ljava/lang/Integer;" (.ref ca)) (Ca : OwnCache Z h0 ca) :
    OwnMet l Z (⟨"java/lang/Integer", "valueOf", "(I)Ljava/lang/Integer;"⟩ : MethodName) jdk_33_method_22_code 1 (some (.object "java/lang/Integer")) ws ({ frames := 3, cells := 1, slots := 1, locals := 38 } : Room) #[(.int p1)] h0 (OwnQ_box Z h0 n0) := by
  refine own_body (plainFor_of_name own_pn2) ?_
  intro p e s m below meth c s₁ X0 hx hby hml hret hlk hown0 hnm hZ e0 hs0
  have hown : s.vm.findClass "java/lang/Integer" = some m.cls := hown0
  have N0 := Fr.nil n0
  refine own_entry (own_ef_rm3 m p1) ?_
  have K0 := Keep.refl h0 []
  show Go _ _ _ _ _ s₁ (mkF m 0 #[.val (.int p1)] [])
  refine own_go (fun t k => XS.iloadN X0.here hx rfl (hb hby d_jdk_33_method_22_0) rfl k) ?_
  show Go _ _ _ _ _ s₁ (mkF m 1 #[.val (.int p1)] [(.int p1)])
  refine own_go (fun t k => XS.bipush X0.here hx rfl (hb hby d_jdk_33_method_22_1) k) ?_
  show Go _ _ _ _ _ s₁ (mkF m 3 #[.val (.int p1)] [(.int (-128 : Int32)), (.int p1)])
  refine own_icmpP (p1 < (-128 : Int32)) X0 hx (hb hby d_jdk_33_method_22_3) (own_lt _ _) (by decide) (by decide) (pc' := 23) (fun hc9 => ?_) (fun hc9 => ?_)
  · skip
    show Go _ _ _ _ _ s₁ (mkF m 23 #[.val (.int p1)] [])
    obtain ⟨T10, h10, X10, e10, E10, A10, D10, -, st10⟩ := newO X0 hx hZ hown (hw _ (List.mem_of_getElem? (i := 34) rfl)) (hw _ (List.mem_of_getElem? (i := 35) rfl)) (hw _ (List.mem_of_getElem? (i := 19) rfl)) e0 (g := (mkF m 23 #[.val (.int p1)] [])) rfl (hb hby d_jdk_33_method_22_23) (by decide) (by decide)
    obtain ⟨b10, g10⟩ : ∃ z, z = h0.size := ⟨_, rfl⟩
    rw [← g10] at A10 D10 st10
    have ne_ca_b10 : ¬ ca = b10 := Nat.ne_of_lt (by rw [g10]; exact Ca.lt)
    replace S_high := S_high.ext E10
    replace S_cache := S_cache.ext E10
    replace Ca := Ca.ext E10
    have g_b10 : n0 ≤ b10 := by rw [g10]; exact hn0
    have hn10 : n0 ≤ h10.size := Nat.le_trans hn0 E10.1
    have F_value_b10 : Fld Z h10 b10 "java/lang/Integer" "value" "I" (.int (0 : Int32)) := D10 (Or.inr (hw _ (List.mem_of_getElem? (i := 48) rfl))) (ty := .int) (by decide)
    refine own_go (fun t k => st10 t k) ?_
    have sz_b10 : h0.size ≤ b10 := by rw [g10]; exact K0.1
    have K10 := K0.ext E10
    show Go _ _ _ _ _ T10 (mkF m 26 #[.val (.int p1)] [(.ref b10)])
    refine own_go (fun t k => XS.dup X10.here hx rfl (hb hby d_jdk_33_method_22_26) rfl rfl k) ?_
    show Go _ _ _ _ _ T10 (mkF m 27 #[.val (.int p1)] [(.ref b10), (.ref b10)])
    refine own_go (fun t k => XS.iloadN X10.here hx rfl (hb hby d_jdk_33_method_22_27) rfl k) ?_
    show Go _ _ _ _ _ T10 (mkF m 28 #[.val (.int p1)] [(.int p1), (.ref b10), (.ref b10)])
    refine own_callI X10 hx hZ (y := (⟨"java/lang/Integer", "<init>", "(I)V"⟩ : MethodName)) rfl hown (hw _ (List.mem_of_getElem? (i := 36) rfl)) (hw _ (List.mem_of_getElem? (i := 37) rfl)) (hw _ (List.mem_of_getElem? (i := 39) rfl)) (hw _ (List.mem_of_getElem? (i := 19) rfl)) (by decide) (rm5 l Z a0 hw [] b10 p1 h10 n0 hn10 A10 g_b10 F_value_b10 ) e10 (b := b10) (by rw [hml]; rfl) (argsL := [(.int p1)]) (rest := [(.ref b10)]) rfl rfl (lenOf own_pd1 rfl) (W := 1) (Nat.le_of_eq rfl) (by decide) (by decide) (hb hby d_jdk_33_method_22_28) (by decide) (by decide) ?_
    intro v11 T11 L11 X11 q11
    obtain ⟨rfl, N11q, K11, Ex11, F11_value⟩ := q11
    have N11 := Fr.app N0 N11q
    replace S_high := own_sta_keep S_high K11 (allS ⟨_, A10⟩ all0)
    replace S_cache := own_sta_keep S_cache K11 (allS ⟨_, A10⟩ all0)
    replace Ca := Ca.keep K11 (ninS ne_ca_b10 nin0)
    replace A10 := A10.keep K11
    have KK11 := K10.trans K11 (by intro x hx; cases List.mem_singleton.mp hx; exact Or.inr sz_b10)
    have hn11 : n0 ≤ T11.heap.size := Nat.le_trans hn10 K11.1
    show Go _ _ _ _ _ T11 (mkF m 31 #[.val (.int p1)] [(.ref b10)])
    refine own_retA X11 hx (own_lvN X11 hlk (by decide) (by decide)) hret rfl rfl (hb hby d_jdk_33_method_22_31) ?_
    skip
    exact ⟨_, rfl, N11, KK11, Ex11⟩
  · skip
    show Go _ _ _ _ _ s₁ (mkF m 6 #[.val (.int p1)] [])
    refine own_go (fun t k => XS.iloadN X0.here hx rfl (hb hby d_jdk_33_method_22_6) rfl k) ?_
    show Go _ _ _ _ _ s₁ (mkF m 7 #[.val (.int p1)] [(.int p1)])
    obtain ⟨T12, X12, e12, st12⟩ := getS2 X0 hx hZ hown (host := "") (Or.inl (hw _ (List.mem_of_getElem? (i := 21) rfl))) Via.refl e0 S_high (g := (mkF m 7 #[.val (.int p1)] [(.int p1)])) rfl (hb hby d_jdk_33_method_22_7)
    refine own_go (fun t k => st12 t k) ?_
    show Go _ _ _ _ _ T12 (mkF m 10 #[.val (.int p1)] [(.int (127 : Int32)), (.int p1)])
    refine own_icmpP ((127 : Int32) < p1) X12 hx (hb hby d_jdk_33_method_22_10) (own_gt _ _) (by decide) (by decide) (pc' := 23) (fun hc13 => ?_) (fun hc13 => ?_)
    · skip
      show Go _ _ _ _ _ T12 (mkF m 23 #[.val (.int p1)] [])
      obtain ⟨T14, h14, X14, e14, E14, A14, D14, -, st14⟩ := newO X12 hx hZ hown (hw _ (List.mem_of_getElem? (i := 34) rfl)) (hw _ (List.mem_of_getElem? (i := 35) rfl)) (hw _ (List.mem_of_getElem? (i := 19) rfl)) e12 (g := (mkF m 23 #[.val (.int p1)] [])) rfl (hb hby d_jdk_33_method_22_23) (by decide) (by decide)
      obtain ⟨b14, g14⟩ : ∃ z, z = h0.size := ⟨_, rfl⟩
      rw [← g14] at A14 D14 st14
      have ne_ca_b14 : ¬ ca = b14 := Nat.ne_of_lt (by rw [g14]; exact Ca.lt)
      replace S_high := S_high.ext E14
      replace S_cache := S_cache.ext E14
      replace Ca := Ca.ext E14
      have g_b14 : n0 ≤ b14 := by rw [g14]; exact hn0
      have hn14 : n0 ≤ h14.size := Nat.le_trans hn0 E14.1
      have F_value_b14 : Fld Z h14 b14 "java/lang/Integer" "value" "I" (.int (0 : Int32)) := D14 (Or.inr (hw _ (List.mem_of_getElem? (i := 48) rfl))) (ty := .int) (by decide)
      refine own_go (fun t k => st14 t k) ?_
      have sz_b14 : h0.size ≤ b14 := by rw [g14]; exact K0.1
      have K14 := K0.ext E14
      show Go _ _ _ _ _ T14 (mkF m 26 #[.val (.int p1)] [(.ref b14)])
      refine own_go (fun t k => XS.dup X14.here hx rfl (hb hby d_jdk_33_method_22_26) rfl rfl k) ?_
      show Go _ _ _ _ _ T14 (mkF m 27 #[.val (.int p1)] [(.ref b14), (.ref b14)])
      refine own_go (fun t k => XS.iloadN X14.here hx rfl (hb hby d_jdk_33_method_22_27) rfl k) ?_
      show Go _ _ _ _ _ T14 (mkF m 28 #[.val (.int p1)] [(.int p1), (.ref b14), (.ref b14)])
      refine own_callI X14 hx hZ (y := (⟨"java/lang/Integer", "<init>", "(I)V"⟩ : MethodName)) rfl hown (hw _ (List.mem_of_getElem? (i := 36) rfl)) (hw _ (List.mem_of_getElem? (i := 37) rfl)) (hw _ (List.mem_of_getElem? (i := 39) rfl)) (hw _ (List.mem_of_getElem? (i := 19) rfl)) (by decide) (rm5 l Z a0 hw [] b14 p1 h14 n0 hn14 A14 g_b14 F_value_b14 ) e14 (b := b14) (by rw [hml]; rfl) (argsL := [(.int p1)]) (rest := [(.ref b14)]) rfl rfl (lenOf own_pd1 rfl) (W := 1) (Nat.le_of_eq rfl) (by decide) (by decide) (hb hby d_jdk_33_method_22_28) (by decide) (by decide) ?_
      intro v15 T15 L15 X15 q15
      obtain ⟨rfl, N15q, K15, Ex15, F15_value⟩ := q15
      have N15 := Fr.app N0 N15q
      replace S_high := own_sta_keep S_high K15 (allS ⟨_, A14⟩ all0)
      replace S_cache := own_sta_keep S_cache K15 (allS ⟨_, A14⟩ all0)
      replace Ca := Ca.keep K15 (ninS ne_ca_b14 nin0)
      replace A14 := A14.keep K15
      have KK15 := K14.trans K15 (by intro x hx; cases List.mem_singleton.mp hx; exact Or.inr sz_b14)
      have hn15 : n0 ≤ T15.heap.size := Nat.le_trans hn14 K15.1
      show Go _ _ _ _ _ T15 (mkF m 31 #[.val (.int p1)] [(.ref b14)])
      refine own_retA X15 hx (own_lvN X15 hlk (by decide) (by decide)) hret rfl rfl (hb hby d_jdk_33_method_22_31) ?_
      skip
      exact ⟨_, rfl, N15, KK15, Ex15⟩
    · skip
      show Go _ _ _ _ _ T12 (mkF m 13 #[.val (.int p1)] [])
      obtain ⟨T16, X16, e16, st16⟩ := getS2 X12 hx hZ hown (host := "") (Or.inl (hw _ (List.mem_of_getElem? (i := 23) rfl))) Via.refl e12 S_cache (g := (mkF m 13 #[.val (.int p1)] [])) rfl (hb hby d_jdk_33_method_22_13)
      refine own_go (fun t k => st16 t k) ?_
      show Go _ _ _ _ _ T16 (mkF m 16 #[.val (.int p1)] [(.ref ca)])
      refine own_go (fun t k => XS.iloadN X16.here hx rfl (hb hby d_jdk_33_method_22_16) rfl k) ?_
      show Go _ _ _ _ _ T16 (mkF m 17 #[.val (.int p1)] [(.int p1), (.ref ca)])
      refine own_go (fun t k => XS.sipush X16.here hx rfl (hb hby d_jdk_33_method_22_17) k) ?_
      show Go _ _ _ _ _ T16 (mkF m 20 #[.val (.int p1)] [(.int (128 : Int32)), (.int p1), (.ref ca)])
      refine own_go (fun t k => XS.iadd X16.here hx rfl (hb hby d_jdk_33_method_22_20) rfl k) ?_
      show Go _ _ _ _ _ T16 (mkF m 21 #[.val (.int p1)] [(.int (p1 + (128 : Int32))), (.ref ca)])
      obtain ⟨cl, Ar, hsz, hel⟩ := Ca
      obtain ⟨hj1, hj2⟩ := own_cidx p1 hc9 hc13
      obtain ⟨bb, hat, Ebb⟩ := hel _ hj2
      refine own_go (fun t k => X16.aaload hx (j := (p1 + (128 : Int32))) (v := (.ref bb)) (by rw [e16]; exact Ar.1) (State.isArrayOf_alike hZ.alike Ar.2.1) rfl Ar.2.2 (fun q => q.elim hj1 (fun q => Nat.not_lt.mpr (hsz ▸ q) hj2)) hat (g := (mkF m 21 #[.val (.int p1)] [(.int (p1 + (128 : Int32))), (.ref ca)])) rfl rfl (hb hby d_jdk_33_method_22_21) _ k) ?_
      show Go _ _ _ _ _ T16 (mkF m 22 #[.val (.int p1)] [(.ref bb)])
      refine own_retA X16 hx (own_lvN X16 hlk (by decide) (by decide)) hret rfl rfl (hb hby d_jdk_33_method_22_22) ?_
      rw [e16]
      exact ⟨_, rfl, N0, K0, Ebb⟩
theorem d_prog_5_method_6_0 : Jvm.ClassFile.decode prog_5_method_6_code 0 = .ok (.aload_n 1, 1) := by decide +kernel
theorem d_prog_5_method_6_1 : Jvm.ClassFile.decode prog_5_method_6_code 1 = .ok (.instanceof 8, 3) := by decide +kernel
theorem d_prog_5_method_6_4 : Jvm.ClassFile.decode prog_5_method_6_code 4 = .ok (.ifCond .eq 57, 3) := by decide +kernel
theorem d_prog_5_method_6_7 : Jvm.ClassFile.decode prog_5_method_6_code 7 = .ok (.aload_n 1, 1) := by decide +kernel
theorem d_prog_5_method_6_8 : Jvm.ClassFile.decode prog_5_method_6_code 8 = .ok (.checkcast 8, 3) := by decide +kernel
theorem d_prog_5_method_6_11 : Jvm.ClassFile.decode prog_5_method_6_code 11 = .ok (.astore_n 2, 1) := by decide +kernel
theorem d_prog_5_method_6_12 : Jvm.ClassFile.decode prog_5_method_6_code 12 = .ok (.aload_n 0, 1) := by decide +kernel
theorem d_prog_5_method_6_13 : Jvm.ClassFile.decode prog_5_method_6_code 13 = .ok (.getfield 7, 3) := by decide +kernel
theorem d_prog_5_method_6_16 : Jvm.ClassFile.decode prog_5_method_6_code 16 = .ok (.aload_n 2, 1) := by decide +kernel
theorem d_prog_5_method_6_17 : Jvm.ClassFile.decode prog_5_method_6_code 17 = .ok (.getfield 7, 3) := by decide +kernel
theorem d_prog_5_method_6_20 : Jvm.ClassFile.decode prog_5_method_6_code 20 = .ok (.if_icmp .ne 41, 3) := by decide +kernel
theorem d_prog_5_method_6_61 : Jvm.ClassFile.decode prog_5_method_6_code 61 = .ok (.iconst 0, 1) := by decide +kernel
theorem d_prog_5_method_6_62 : Jvm.ClassFile.decode prog_5_method_6_code 62 = .ok (.ireturn, 1) := by decide +kernel
theorem d_prog_5_method_6_23 : Jvm.ClassFile.decode prog_5_method_6_code 23 = .ok (.aload_n 0, 1) := by decide +kernel
theorem d_prog_5_method_6_24 : Jvm.ClassFile.decode prog_5_method_6_code 24 = .ok (.getfield 13, 3) := by decide +kernel
theorem d_prog_5_method_6_27 : Jvm.ClassFile.decode prog_5_method_6_code 27 = .ok (.aload_n 2, 1) := by decide +kernel
theorem d_prog_5_method_6_28 : Jvm.ClassFile.decode prog_5_method_6_code 28 = .ok (.getfield 13, 3) := by decide +kernel
theorem d_prog_5_method_6_31 : Jvm.ClassFile.decode prog_5_method_6_code 31 = .ok (.lcmp, 1) := by decide +kernel
theorem d_prog_5_method_6_32 : Jvm.ClassFile.decode prog_5_method_6_code 32 = .ok (.ifCond .ne 29, 3) := by decide +kernel
theorem d_prog_5_method_6_35 : Jvm.ClassFile.decode prog_5_method_6_code 35 = .ok (.aload_n 0, 1) := by decide +kernel
theorem d_prog_5_method_6_36 : Jvm.ClassFile.decode prog_5_method_6_code 36 = .ok (.getfield 17, 3) := by decide +kernel
theorem d_prog_5_method_6_39 : Jvm.ClassFile.decode prog_5_method_6_code 39 = .ok (.aload_n 2, 1) := by decide +kernel
theorem d_prog_5_method_6_40 : Jvm.ClassFile.decode prog_5_method_6_code 40 = .ok (.getfield 17, 3) := by decide +kernel
theorem d_prog_5_method_6_43 : Jvm.ClassFile.decode prog_5_method_6_code 43 = .ok (.if_icmp .ne 18, 3) := by decide +kernel
theorem d_prog_5_method_6_46 : Jvm.ClassFile.decode prog_5_method_6_code 46 = .ok (.aload_n 0, 1) := by decide +kernel
theorem d_prog_5_method_6_47 : Jvm.ClassFile.decode prog_5_method_6_code 47 = .ok (.getfield 20, 3) := by decide +kernel
theorem d_prog_5_method_6_50 : Jvm.ClassFile.decode prog_5_method_6_code 50 = .ok (.aload_n 2, 1) := by decide +kernel
theorem d_prog_5_method_6_51 : Jvm.ClassFile.decode prog_5_method_6_code 51 = .ok (.getfield 20, 3) := by decide +kernel
theorem d_prog_5_method_6_54 : Jvm.ClassFile.decode prog_5_method_6_code 54 = .ok (.if_icmp .ne 7, 3) := by decide +kernel
theorem d_prog_5_method_6_57 : Jvm.ClassFile.decode prog_5_method_6_code 57 = .ok (.iconst 1, 1) := by decide +kernel
theorem d_prog_5_method_6_58 : Jvm.ClassFile.decode prog_5_method_6_code 58 = .ok (.goto 4, 3) := by decide +kernel
def own_f_rm_eq_same (x_df : Int32) (x_cf : Int64) (x_tf : Int32) (x_dl : Int32) (y_df : Int32) (y_cf : Int64) (y_tf : Int32) (y_dl : Int32) : Int32 := (if x_df = y_df then (if (lcmpW x_cf y_cf) = (0 : Int32) then (if x_tf = y_tf then (if x_dl = y_dl then (1 : Int32) else (0 : Int32)) else (0 : Int32)) else (0 : Int32)) else (0 : Int32))
theorem own_ef_rm_eq_same (m : MethodId) (x0 : Addr) (x1 : Addr) : entryFrame m #[(.ref x0), (.ref x1)] 3 = mkF m 0 #[.val (.ref x0), .val (.ref x1), .unset] [] := by first | (simp [entryFrame, mkF, argsToLocals, Value.category]; done) | rfl
set_option maxRecDepth 65536 in
set_option maxHeartbeats 40000000 in
theorem rm_eq_same (l : Launch) (Z : State) (a0 : Array Value) (hw : ∀ d ∈ tables_1, d.before a0 Z = true) (ws : List Jvm.Cond) (a1 : Addr) (a2 : Addr) (x_df : Int32) (x_cf : Int64) (x_tf : Int32) (x_dl : Int32) (y_df : Int32) (y_cf : Int64) (y_tf : Int32) (y_dl : Int32) (r : Int32) (h0 : Heap) (n0 : Nat) (hn0 : n0 ≤ h0.size) (E_a2 : Exa Z h0 a2 "com/example/term_weight_evolver/termweightevolver/constraints/Probe") (F_df_a1 : Fld Z h0 a1 "com/example/term_weight_evolver/termweightevolver/constraints/Probe" "df" "I" (.int x_df)) (F_cf_a1 : Fld Z h0 a1 "com/example/term_weight_evolver/termweightevolver/constraints/Probe" "cf" "J" (.long x_cf)) (F_tf_a1 : Fld Z h0 a1 "com/example/term_weight_evolver/termweightevolver/constraints/Probe" "tf" "I" (.int x_tf)) (F_dl_a1 : Fld Z h0 a1 "com/example/term_weight_evolver/termweightevolver/constraints/Probe" "dl" "I" (.int x_dl)) (F_df_a2 : Fld Z h0 a2 "com/example/term_weight_evolver/termweightevolver/constraints/Probe" "df" "I" (.int y_df)) (F_cf_a2 : Fld Z h0 a2 "com/example/term_weight_evolver/termweightevolver/constraints/Probe" "cf" "J" (.long y_cf)) (F_tf_a2 : Fld Z h0 a2 "com/example/term_weight_evolver/termweightevolver/constraints/Probe" "tf" "I" (.int y_tf)) (F_dl_a2 : Fld Z h0 a2 "com/example/term_weight_evolver/termweightevolver/constraints/Probe" "dl" "I" (.int y_dl)) (hr : own_f_rm_eq_same x_df x_cf x_tf x_dl y_df y_cf y_tf y_dl = r) :
    OwnMet l Z (⟨"com/example/term_weight_evolver/termweightevolver/constraints/Probe", "equals", "(Ljava/lang/Object;)Z"⟩ : MethodName) prog_5_method_6_code 3 (some .boolean) ws ({ frames := 0, cells := 0, slots := 0, locals := 0 } : Room) #[(.ref a1), (.ref a2)] h0 (OwnP (some (.int r)) h0 n0) := by
  refine own_body (plainFor_of_name own_pn0) ?_
  intro p e s m below meth c s₁ X0 hx hby hml hret hlk hown0 hnm hZ e0 hs0
  have hown : s.vm.findClass "com/example/term_weight_evolver/termweightevolver/constraints/Probe" = some m.cls := hown0
  have N0 := Fr.nil n0
  refine own_entry (own_ef_rm_eq_same m a1 a2) ?_
  show Go _ _ _ _ _ s₁ (mkF m 0 #[.val (.ref a1), .val (.ref a2), .unset] [])
  refine own_go (fun t k => XS.aloadN X0.here hx rfl (hb hby d_prog_5_method_6_0) rfl rfl k) ?_
  show Go _ _ _ _ _ s₁ (mkF m 1 #[.val (.ref a1), .val (.ref a2), .unset] [(.ref a2)])
  obtain ⟨T31, X31, e31, st31⟩ := instY X0 hx hZ hown (hw _ (List.mem_of_getElem? (i := 29) rfl)) e0 (Ins.self E_a2) (g := (mkF m 1 #[.val (.ref a1), .val (.ref a2), .unset] [(.ref a2)])) rfl rfl (hb hby d_prog_5_method_6_1)
  refine own_go (fun t k => st31 t k) ?_
  show Go _ _ _ _ _ T31 (mkF m 4 #[.val (.ref a1), .val (.ref a2), .unset] [(.int (1 : Int32))])
  refine own_go (fun t k => XS.ifNo X31.here hx rfl (hb hby d_prog_5_method_6_4) rfl (by decide) k) ?_
  show Go _ _ _ _ _ T31 (mkF m 7 #[.val (.ref a1), .val (.ref a2), .unset] [])
  refine own_go (fun t k => XS.aloadN X31.here hx rfl (hb hby d_prog_5_method_6_7) rfl rfl k) ?_
  show Go _ _ _ _ _ T31 (mkF m 8 #[.val (.ref a1), .val (.ref a2), .unset] [(.ref a2)])
  obtain ⟨T32, X32, e32, st32⟩ := castY X31 hx hZ hown (hw _ (List.mem_of_getElem? (i := 29) rfl)) e31 (Ins.self E_a2) (g := (mkF m 8 #[.val (.ref a1), .val (.ref a2), .unset] [(.ref a2)])) rfl rfl (hb hby d_prog_5_method_6_8)
  refine own_go (fun t k => st32 t k) ?_
  show Go _ _ _ _ _ T32 (mkF m 11 #[.val (.ref a1), .val (.ref a2), .unset] [(.ref a2)])
  refine own_go (fun t k => XS.astoreN X32.here hx rfl (hb hby d_prog_5_method_6_11) rfl rfl (l' := #[.val (.ref a1), .val (.ref a2), .val (.ref a2)]) rfl k) ?_
  show Go _ _ _ _ _ T32 (mkF m 12 #[.val (.ref a1), .val (.ref a2), .val (.ref a2)] [])
  refine own_go (fun t k => XS.aloadN X32.here hx rfl (hb hby d_prog_5_method_6_12) rfl rfl k) ?_
  show Go _ _ _ _ _ T32 (mkF m 13 #[.val (.ref a1), .val (.ref a2), .val (.ref a2)] [(.ref a1)])
  obtain ⟨T33, X33, e33, st33⟩ := getF X32 hx hZ hown (host := "") (Or.inl (hw _ (List.mem_of_getElem? (i := 9) rfl))) Via.refl e32 F_df_a1 (g := (mkF m 13 #[.val (.ref a1), .val (.ref a2), .val (.ref a2)] [(.ref a1)])) rfl rfl (hb hby d_prog_5_method_6_13)
  refine own_go (fun t k => st33 t k) ?_
  show Go _ _ _ _ _ T33 (mkF m 16 #[.val (.ref a1), .val (.ref a2), .val (.ref a2)] [(.int x_df)])
  refine own_go (fun t k => XS.aloadN X33.here hx rfl (hb hby d_prog_5_method_6_16) rfl rfl k) ?_
  show Go _ _ _ _ _ T33 (mkF m 17 #[.val (.ref a1), .val (.ref a2), .val (.ref a2)] [(.ref a2), (.int x_df)])
  obtain ⟨T34, X34, e34, st34⟩ := getF X33 hx hZ hown (host := "") (Or.inl (hw _ (List.mem_of_getElem? (i := 9) rfl))) Via.refl e33 F_df_a2 (g := (mkF m 17 #[.val (.ref a1), .val (.ref a2), .val (.ref a2)] [(.ref a2), (.int x_df)])) rfl rfl (hb hby d_prog_5_method_6_17)
  refine own_go (fun t k => st34 t k) ?_
  show Go _ _ _ _ _ T34 (mkF m 20 #[.val (.ref a1), .val (.ref a2), .val (.ref a2)] [(.int y_df), (.int x_df)])
  refine own_icmpM (x_df = y_df) X34 hx (hb hby d_prog_5_method_6_20) (own_ne _ _) (by decide) (by decide) (pc' := 61) (fun hc35 => ?_) (fun hc35 => ?_)
  · skip
    show Go _ _ _ _ _ T34 (mkF m 61 #[.val (.ref a1), .val (.ref a2), .val (.ref a2)] [])
    refine own_go (fun t k => XS.iconst X34.here hx rfl (hb hby d_prog_5_method_6_61) k) ?_
    show Go _ _ _ _ _ T34 (mkF m 62 #[.val (.ref a1), .val (.ref a2), .val (.ref a2)] [(.int (0 : Int32))])
    refine own_retN X34 hx (own_lvN X34 hlk (by decide) (by decide)) (t := .boolean) hret (by simp) (hb hby d_prog_5_method_6_62) ?_
    exact ⟨(by rw [← hr, own_f_rm_eq_same, if_neg hc35]; try rfl), N0, e34⟩
  · skip
    show Go _ _ _ _ _ T34 (mkF m 23 #[.val (.ref a1), .val (.ref a2), .val (.ref a2)] [])
    refine own_go (fun t k => XS.aloadN X34.here hx rfl (hb hby d_prog_5_method_6_23) rfl rfl k) ?_
    show Go _ _ _ _ _ T34 (mkF m 24 #[.val (.ref a1), .val (.ref a2), .val (.ref a2)] [(.ref a1)])
    obtain ⟨T36, X36, e36, st36⟩ := getF X34 hx hZ hown (host := "") (Or.inl (hw _ (List.mem_of_getElem? (i := 11) rfl))) Via.refl e34 F_cf_a1 (g := (mkF m 24 #[.val (.ref a1), .val (.ref a2), .val (.ref a2)] [(.ref a1)])) rfl rfl (hb hby d_prog_5_method_6_24)
    refine own_go (fun t k => st36 t k) ?_
    show Go _ _ _ _ _ T36 (mkF m 27 #[.val (.ref a1), .val (.ref a2), .val (.ref a2)] [(.long x_cf)])
    refine own_go (fun t k => XS.aloadN X36.here hx rfl (hb hby d_prog_5_method_6_27) rfl rfl k) ?_
    show Go _ _ _ _ _ T36 (mkF m 28 #[.val (.ref a1), .val (.ref a2), .val (.ref a2)] [(.ref a2), (.long x_cf)])
    obtain ⟨T37, X37, e37, st37⟩ := getF X36 hx hZ hown (host := "") (Or.inl (hw _ (List.mem_of_getElem? (i := 11) rfl))) Via.refl e36 F_cf_a2 (g := (mkF m 28 #[.val (.ref a1), .val (.ref a2), .val (.ref a2)] [(.ref a2), (.long x_cf)])) rfl rfl (hb hby d_prog_5_method_6_28)
    refine own_go (fun t k => st37 t k) ?_
    show Go _ _ _ _ _ T37 (mkF m 31 #[.val (.ref a1), .val (.ref a2), .val (.ref a2)] [(.long y_cf), (.long x_cf)])
    refine own_go (fun t k => XS.lcmp X37.here hx rfl (hb hby d_prog_5_method_6_31) rfl k) ?_
    show Go _ _ _ _ _ T37 (mkF m 32 #[.val (.ref a1), .val (.ref a2), .val (.ref a2)] [(.int (lcmpW x_cf y_cf))])
    refine own_ifM ((lcmpW x_cf y_cf) = (0 : Int32)) X37 hx (hb hby d_prog_5_method_6_32) (own_ne _ _) (by decide) (by decide) (pc' := 61) (fun hc38 => ?_) (fun hc38 => ?_)
    · skip
      show Go _ _ _ _ _ T37 (mkF m 61 #[.val (.ref a1), .val (.ref a2), .val (.ref a2)] [])
      refine own_go (fun t k => XS.iconst X37.here hx rfl (hb hby d_prog_5_method_6_61) k) ?_
      show Go _ _ _ _ _ T37 (mkF m 62 #[.val (.ref a1), .val (.ref a2), .val (.ref a2)] [(.int (0 : Int32))])
      refine own_retN X37 hx (own_lvN X37 hlk (by decide) (by decide)) (t := .boolean) hret (by simp) (hb hby d_prog_5_method_6_62) ?_
      exact ⟨(by rw [← hr, own_f_rm_eq_same, if_pos hc35, if_neg hc38]; try rfl), N0, e37⟩
    · skip
      show Go _ _ _ _ _ T37 (mkF m 35 #[.val (.ref a1), .val (.ref a2), .val (.ref a2)] [])
      refine own_go (fun t k => XS.aloadN X37.here hx rfl (hb hby d_prog_5_method_6_35) rfl rfl k) ?_
      show Go _ _ _ _ _ T37 (mkF m 36 #[.val (.ref a1), .val (.ref a2), .val (.ref a2)] [(.ref a1)])
      obtain ⟨T39, X39, e39, st39⟩ := getF X37 hx hZ hown (host := "") (Or.inl (hw _ (List.mem_of_getElem? (i := 13) rfl))) Via.refl e37 F_tf_a1 (g := (mkF m 36 #[.val (.ref a1), .val (.ref a2), .val (.ref a2)] [(.ref a1)])) rfl rfl (hb hby d_prog_5_method_6_36)
      refine own_go (fun t k => st39 t k) ?_
      show Go _ _ _ _ _ T39 (mkF m 39 #[.val (.ref a1), .val (.ref a2), .val (.ref a2)] [(.int x_tf)])
      refine own_go (fun t k => XS.aloadN X39.here hx rfl (hb hby d_prog_5_method_6_39) rfl rfl k) ?_
      show Go _ _ _ _ _ T39 (mkF m 40 #[.val (.ref a1), .val (.ref a2), .val (.ref a2)] [(.ref a2), (.int x_tf)])
      obtain ⟨T40, X40, e40, st40⟩ := getF X39 hx hZ hown (host := "") (Or.inl (hw _ (List.mem_of_getElem? (i := 13) rfl))) Via.refl e39 F_tf_a2 (g := (mkF m 40 #[.val (.ref a1), .val (.ref a2), .val (.ref a2)] [(.ref a2), (.int x_tf)])) rfl rfl (hb hby d_prog_5_method_6_40)
      refine own_go (fun t k => st40 t k) ?_
      show Go _ _ _ _ _ T40 (mkF m 43 #[.val (.ref a1), .val (.ref a2), .val (.ref a2)] [(.int y_tf), (.int x_tf)])
      refine own_icmpM (x_tf = y_tf) X40 hx (hb hby d_prog_5_method_6_43) (own_ne _ _) (by decide) (by decide) (pc' := 61) (fun hc41 => ?_) (fun hc41 => ?_)
      · skip
        show Go _ _ _ _ _ T40 (mkF m 61 #[.val (.ref a1), .val (.ref a2), .val (.ref a2)] [])
        refine own_go (fun t k => XS.iconst X40.here hx rfl (hb hby d_prog_5_method_6_61) k) ?_
        show Go _ _ _ _ _ T40 (mkF m 62 #[.val (.ref a1), .val (.ref a2), .val (.ref a2)] [(.int (0 : Int32))])
        refine own_retN X40 hx (own_lvN X40 hlk (by decide) (by decide)) (t := .boolean) hret (by simp) (hb hby d_prog_5_method_6_62) ?_
        exact ⟨(by rw [← hr, own_f_rm_eq_same, if_pos hc35, if_pos hc38, if_neg hc41]; try rfl), N0, e40⟩
      · skip
        show Go _ _ _ _ _ T40 (mkF m 46 #[.val (.ref a1), .val (.ref a2), .val (.ref a2)] [])
        refine own_go (fun t k => XS.aloadN X40.here hx rfl (hb hby d_prog_5_method_6_46) rfl rfl k) ?_
        show Go _ _ _ _ _ T40 (mkF m 47 #[.val (.ref a1), .val (.ref a2), .val (.ref a2)] [(.ref a1)])
        obtain ⟨T42, X42, e42, st42⟩ := getF X40 hx hZ hown (host := "") (Or.inl (hw _ (List.mem_of_getElem? (i := 15) rfl))) Via.refl e40 F_dl_a1 (g := (mkF m 47 #[.val (.ref a1), .val (.ref a2), .val (.ref a2)] [(.ref a1)])) rfl rfl (hb hby d_prog_5_method_6_47)
        refine own_go (fun t k => st42 t k) ?_
        show Go _ _ _ _ _ T42 (mkF m 50 #[.val (.ref a1), .val (.ref a2), .val (.ref a2)] [(.int x_dl)])
        refine own_go (fun t k => XS.aloadN X42.here hx rfl (hb hby d_prog_5_method_6_50) rfl rfl k) ?_
        show Go _ _ _ _ _ T42 (mkF m 51 #[.val (.ref a1), .val (.ref a2), .val (.ref a2)] [(.ref a2), (.int x_dl)])
        obtain ⟨T43, X43, e43, st43⟩ := getF X42 hx hZ hown (host := "") (Or.inl (hw _ (List.mem_of_getElem? (i := 15) rfl))) Via.refl e42 F_dl_a2 (g := (mkF m 51 #[.val (.ref a1), .val (.ref a2), .val (.ref a2)] [(.ref a2), (.int x_dl)])) rfl rfl (hb hby d_prog_5_method_6_51)
        refine own_go (fun t k => st43 t k) ?_
        show Go _ _ _ _ _ T43 (mkF m 54 #[.val (.ref a1), .val (.ref a2), .val (.ref a2)] [(.int y_dl), (.int x_dl)])
        refine own_icmpM (x_dl = y_dl) X43 hx (hb hby d_prog_5_method_6_54) (own_ne _ _) (by decide) (by decide) (pc' := 61) (fun hc44 => ?_) (fun hc44 => ?_)
        · skip
          show Go _ _ _ _ _ T43 (mkF m 61 #[.val (.ref a1), .val (.ref a2), .val (.ref a2)] [])
          refine own_go (fun t k => XS.iconst X43.here hx rfl (hb hby d_prog_5_method_6_61) k) ?_
          show Go _ _ _ _ _ T43 (mkF m 62 #[.val (.ref a1), .val (.ref a2), .val (.ref a2)] [(.int (0 : Int32))])
          refine own_retN X43 hx (own_lvN X43 hlk (by decide) (by decide)) (t := .boolean) hret (by simp) (hb hby d_prog_5_method_6_62) ?_
          exact ⟨(by rw [← hr, own_f_rm_eq_same, if_pos hc35, if_pos hc38, if_pos hc41, if_neg hc44]; try rfl), N0, e43⟩
        · skip
          show Go _ _ _ _ _ T43 (mkF m 57 #[.val (.ref a1), .val (.ref a2), .val (.ref a2)] [])
          refine own_go (fun t k => XS.iconst X43.here hx rfl (hb hby d_prog_5_method_6_57) k) ?_
          show Go _ _ _ _ _ T43 (mkF m 58 #[.val (.ref a1), .val (.ref a2), .val (.ref a2)] [(.int (1 : Int32))])
          refine own_go (fun t k => XS.goto X43.here hx rfl (pc0 := 58) (pc' := 62) rfl (hb hby d_prog_5_method_6_58) (by decide) (by decide) k) ?_
          show Go _ _ _ _ _ T43 (mkF m 62 #[.val (.ref a1), .val (.ref a2), .val (.ref a2)] [(.int (1 : Int32))])
          refine own_retN X43 hx (own_lvN X43 hlk (by decide) (by decide)) (t := .boolean) hret (by simp) (hb hby d_prog_5_method_6_62) ?_
          exact ⟨(by rw [← hr, own_f_rm_eq_same, if_pos hc35, if_pos hc38, if_pos hc41, if_pos hc44]; try rfl), N0, e43⟩
def own_f_rm_eq_null  : Int32 := (0 : Int32)
theorem own_ef_rm_eq_null (m : MethodId) (x0 : Addr) : entryFrame m #[(.ref x0), .null] 3 = mkF m 0 #[.val (.ref x0), .val .null, .unset] [] := by first | (simp [entryFrame, mkF, argsToLocals, Value.category]; done) | rfl
set_option maxRecDepth 65536 in
set_option maxHeartbeats 40000000 in
theorem rm_eq_null (l : Launch) (Z : State) (a0 : Array Value) (hw : ∀ d ∈ tables_1, d.before a0 Z = true) (ws : List Jvm.Cond) (a1 : Addr) (r : Int32) (h0 : Heap) (n0 : Nat) (hn0 : n0 ≤ h0.size) (hr : own_f_rm_eq_null = r) :
    OwnMet l Z (⟨"com/example/term_weight_evolver/termweightevolver/constraints/Probe", "equals", "(Ljava/lang/Object;)Z"⟩ : MethodName) prog_5_method_6_code 3 (some .boolean) ws ({ frames := 0, cells := 0, slots := 0, locals := 0 } : Room) #[(.ref a1), .null] h0 (OwnP (some (.int r)) h0 n0) := by
  refine own_body (plainFor_of_name own_pn0) ?_
  intro p e s m below meth c s₁ X0 hx hby hml hret hlk hown0 hnm hZ e0 hs0
  have hown : s.vm.findClass "com/example/term_weight_evolver/termweightevolver/constraints/Probe" = some m.cls := hown0
  have N0 := Fr.nil n0
  refine own_entry (own_ef_rm_eq_null m a1) ?_
  show Go _ _ _ _ _ s₁ (mkF m 0 #[.val (.ref a1), .val .null, .unset] [])
  refine own_go (fun t k => XS.aloadN X0.here hx rfl (hb hby d_prog_5_method_6_0) rfl rfl k) ?_
  show Go _ _ _ _ _ s₁ (mkF m 1 #[.val (.ref a1), .val .null, .unset] [.null])
  refine own_go (fun t k => X0.instanceofNull hx (g := (mkF m 1 #[.val (.ref a1), .val .null, .unset] [.null])) rfl rfl (hb hby d_prog_5_method_6_1) _ k) ?_
  show Go _ _ _ _ _ s₁ (mkF m 4 #[.val (.ref a1), .val .null, .unset] [(.int (0 : Int32))])
  refine own_go (fun t k => XS.ifYes X0.here hx rfl (pc0 := 4) (pc' := 61) rfl (hb hby d_prog_5_method_6_4) rfl (by decide) (by decide) (by decide) k) ?_
  show Go _ _ _ _ _ s₁ (mkF m 61 #[.val (.ref a1), .val .null, .unset] [])
  refine own_go (fun t k => XS.iconst X0.here hx rfl (hb hby d_prog_5_method_6_61) k) ?_
  show Go _ _ _ _ _ s₁ (mkF m 62 #[.val (.ref a1), .val .null, .unset] [(.int (0 : Int32))])
  refine own_retN X0 hx (own_lvN X0 hlk (by decide) (by decide)) (t := .boolean) hret (by simp) (hb hby d_prog_5_method_6_62) ?_
  exact ⟨(by rw [← hr, own_f_rm_eq_null]; try rfl), N0, e0⟩
def own_f_rm_eq_other  : Int32 := (0 : Int32)
theorem own_ef_rm_eq_other (m : MethodId) (x0 : Addr) (x1 : Addr) : entryFrame m #[(.ref x0), (.ref x1)] 3 = mkF m 0 #[.val (.ref x0), .val (.ref x1), .unset] [] := by first | (simp [entryFrame, mkF, argsToLocals, Value.category]; done) | rfl
set_option maxRecDepth 65536 in
set_option maxHeartbeats 40000000 in
theorem rm_eq_other (l : Launch) (Z : State) (a0 : Array Value) (hw : ∀ d ∈ tables_1, d.before a0 Z = true) (ws : List Jvm.Cond) (a1 : Addr) (a2 : Addr) (r : Int32) (h0 : Heap) (n0 : Nat) (hn0 : n0 ≤ h0.size) (E_a2 : Exa Z h0 a2 "java/lang/Integer") (hr : own_f_rm_eq_other = r) :
    OwnMet l Z (⟨"com/example/term_weight_evolver/termweightevolver/constraints/Probe", "equals", "(Ljava/lang/Object;)Z"⟩ : MethodName) prog_5_method_6_code 3 (some .boolean) ws ({ frames := 0, cells := 0, slots := 0, locals := 0 } : Room) #[(.ref a1), (.ref a2)] h0 (OwnP (some (.int r)) h0 n0) := by
  refine own_body (plainFor_of_name own_pn0) ?_
  intro p e s m below meth c s₁ X0 hx hby hml hret hlk hown0 hnm hZ e0 hs0
  have hown : s.vm.findClass "com/example/term_weight_evolver/termweightevolver/constraints/Probe" = some m.cls := hown0
  have N0 := Fr.nil n0
  refine own_entry (own_ef_rm_eq_other m a1 a2) ?_
  show Go _ _ _ _ _ s₁ (mkF m 0 #[.val (.ref a1), .val (.ref a2), .unset] [])
  refine own_go (fun t k => XS.aloadN X0.here hx rfl (hb hby d_prog_5_method_6_0) rfl rfl k) ?_
  show Go _ _ _ _ _ s₁ (mkF m 1 #[.val (.ref a1), .val (.ref a2), .unset] [(.ref a2)])
  have I48 : Ins Z s.heap a2 "com/example/term_weight_evolver/termweightevolver/constraints/Probe" false := by rw [hs0]; exact (own_nins E_a2 (hw _ (List.mem_of_getElem? (i := 1) rfl)) (hw _ (List.mem_of_getElem? (i := 31) rfl)) (by decide) (own_nsub_up (hw _ (List.mem_of_getElem? (i := 31) rfl)) (by decide) (own_nsub_up (hw _ (List.mem_of_getElem? (i := 32) rfl)) (by decide) (own_nsub_root (hw _ (List.mem_of_getElem? (i := 33) rfl)) (by decide)))))
  have J48 : Exa Z s.heap a2 "java/lang/Integer" := by rw [hs0]; exact E_a2
  obtain ⟨T48, X48, e48, st48⟩ := instN X0 hx hZ hown (hw _ (List.mem_of_getElem? (i := 29) rfl)) e0 I48 J48 (g := (mkF m 1 #[.val (.ref a1), .val (.ref a2), .unset] [(.ref a2)])) rfl rfl (hb hby d_prog_5_method_6_1)
  refine own_go (fun t k => st48 t k) ?_
  show Go _ _ _ _ _ T48 (mkF m 4 #[.val (.ref a1), .val (.ref a2), .unset] [(.int (0 : Int32))])
  refine own_go (fun t k => XS.ifYes X48.here hx rfl (pc0 := 4) (pc' := 61) rfl (hb hby d_prog_5_method_6_4) rfl (by decide) (by decide) (by decide) k) ?_
  show Go _ _ _ _ _ T48 (mkF m 61 #[.val (.ref a1), .val (.ref a2), .unset] [])
  refine own_go (fun t k => XS.iconst X48.here hx rfl (hb hby d_prog_5_method_6_61) k) ?_
  show Go _ _ _ _ _ T48 (mkF m 62 #[.val (.ref a1), .val (.ref a2), .unset] [(.int (0 : Int32))])
  refine own_retN X48 hx (own_lvN X48 hlk (by decide) (by decide)) (t := .boolean) hret (by simp) (hb hby d_prog_5_method_6_62) ?_
  exact ⟨(by rw [← hr, own_f_rm_eq_other]; try rfl), N0, e48⟩
theorem own_pd2 : parseMethodDescriptor "(IJII)V" = some ⟨[.int, .long, .int, .int], none⟩ := by decide +kernel
theorem own_pd3 : parseMethodDescriptor "(I)Ljava/lang/Integer;" = some ⟨[.int], some (.object "java/lang/Integer")⟩ := by decide +kernel
theorem own_pd4 : parseMethodDescriptor "(Ljava/lang/Object;)Z" = some ⟨[(.object "java/lang/Object")], some .boolean⟩ := by decide +kernel
theorem own_pn3 : plainName "com/example/term_weight_evolver/termweightevolver/constraints/ProbeEqualsPinLaw" = true := by first | (simp [plainName, overriddenIn]; done) | decide +kernel
theorem own_ef_rm0 (m : MethodId) (x0 : Int32) (x1 : Int64) (x2 : Int32) (x3 : Int32) (x4 : Int32) (x5 : Int64) : entryFrame m #[(.int x0), (.long x1), (.int x2), (.int x3), (.int x4), (.long x5)] maxLocals = mkF m 0 #[.val (.int x0), .val (.long x1), .second, .val (.int x2), .val (.int x3), .val (.int x4), .val (.long x5), .second, .unset, .unset, .unset, .unset, .unset, .unset, .unset, .unset, .unset, .unset, .unset, .unset, .unset, .unset] [] := by first | (simp [entryFrame, mkF, argsToLocals, Value.category, maxLocals]; done) | rfl
set_option maxRecDepth 65536 in
set_option maxHeartbeats 40000000 in
theorem rm0 (l : Launch) (Z : State) (a0 : Array Value) (hw : ∀ d ∈ tables_1, d.before a0 Z = true) (ws : List Jvm.Cond) (p1 : Int32) (p2 : Int64) (p3 : Int32) (p4 : Int32) (p5 : Int32) (p6 : Int64) (ca : Addr) (h0 : Heap) (n0 : Nat) (hn0 : n0 ≤ h0.size) (S_high : Sta Z h0 "java/lang/Integer$IntegerCache" "high" "I" (.int (127 : Int32))) (S_cache : Sta Z h0 "java/lang/Integer$IntegerCache" "cache" "[Ljava/lang/Integer;" (.ref ca)) (Ca : OwnCache Z h0 ca) :
    OwnMet l Z x code maxLocals ret ws room_1 #[(.int p1), (.long p2), (.int p3), (.int p4), (.int p5), (.long p6)] h0 (OwnR (some (.int 1)) n0) := by
  refine own_body (plainFor_of_name own_pn3) ?_
  intro p e s m below meth c s₁ X0 hx hby hml hret hlk hown0 hnm hZ e0 hs0
  have hown : s.vm.findClass "com/example/term_weight_evolver/termweightevolver/constraints/ProbeEqualsPinLaw" = some m.cls := hown0
  have N0 := Fr.nil n0
  refine own_entry (own_ef_rm0 m p1 p2 p3 p4 p5 p6) ?_
  show Go _ _ _ _ _ s₁ (mkF m 0 #[.val (.int p1), .val (.long p2), .second, .val (.int p3), .val (.int p4), .val (.int p5), .val (.long p6), .second, .unset, .unset, .unset, .unset, .unset, .unset, .unset, .unset, .unset, .unset, .unset, .unset, .unset, .unset] [])
  refine own_go (fun t k => XS.iload X0.here hx rfl (hb hby at_0) rfl k) ?_
  show Go _ _ _ _ _ s₁ (mkF m 2 #[.val (.int p1), .val (.long p2), .second, .val (.int p3), .val (.int p4), .val (.int p5), .val (.long p6), .second, .unset, .unset, .unset, .unset, .unset, .unset, .unset, .unset, .unset, .unset, .unset, .unset, .unset, .unset] [(.int p5)])
  refine own_go (fun t k => XS.iconst X0.here hx rfl (hb hby at_2) k) ?_
  show Go _ _ _ _ _ s₁ (mkF m 3 #[.val (.int p1), .val (.long p2), .second, .val (.int p3), .val (.int p4), .val (.int p5), .val (.long p6), .second, .unset, .unset, .unset, .unset, .unset, .unset, .unset, .unset, .unset, .unset, .unset, .unset, .unset, .unset] [(.int (1 : Int32)), (.int p5)])
  refine own_go (fun t k => XS.iand X0.here hx rfl (hb hby at_3) rfl k) ?_
  have J49 : ∀ (q8 : Int32), Go p e below (EndN s (room_1.cells) (room_1.slots)) (OwnR (some (.int 1)) n0) s₁ (mkF m 18 #[.val (.int p1), .val (.long p2), .second, .val (.int p3), .val (.int p4), .val (.int p5), .val (.long p6), .second, .val (.int q8), .unset, .unset, .unset, .unset, .unset, .unset, .unset, .unset, .unset, .unset, .unset, .unset, .unset] []) := by
    intro q8
    show Go _ _ _ _ _ s₁ (mkF m 18 #[.val (.int p1), .val (.long p2), .second, .val (.int p3), .val (.int p4), .val (.int p5), .val (.long p6), .second, .val (.int q8), .unset, .unset, .unset, .unset, .unset, .unset, .unset, .unset, .unset, .unset, .unset, .unset, .unset] [])
    refine own_go (fun t k => XS.iload X0.here hx rfl (hb hby at_18) rfl k) ?_
    show Go _ _ _ _ _ s₁ (mkF m 20 #[.val (.int p1), .val (.long p2), .second, .val (.int p3), .val (.int p4), .val (.int p5), .val (.long p6), .second, .val (.int q8), .unset, .unset, .unset, .unset, .unset, .unset, .unset, .unset, .unset, .unset, .unset, .unset, .unset] [(.int p5)])
    refine own_go (fun t k => XS.iconst X0.here hx rfl (hb hby at_20) k) ?_
    show Go _ _ _ _ _ s₁ (mkF m 21 #[.val (.int p1), .val (.long p2), .second, .val (.int p3), .val (.int p4), .val (.int p5), .val (.long p6), .second, .val (.int q8), .unset, .unset, .unset, .unset, .unset, .unset, .unset, .unset, .unset, .unset, .unset, .unset, .unset] [(.int (2 : Int32)), (.int p5)])
    refine own_go (fun t k => XS.iand X0.here hx rfl (hb hby at_21) rfl k) ?_
    have J50 : ∀ (q9 : Int64), Go p e below (EndN s (room_1.cells) (room_1.slots)) (OwnR (some (.int 1)) n0) s₁ (mkF m 35 #[.val (.int p1), .val (.long p2), .second, .val (.int p3), .val (.int p4), .val (.int p5), .val (.long p6), .second, .val (.int q8), .val (.long q9), .second, .unset, .unset, .unset, .unset, .unset, .unset, .unset, .unset, .unset, .unset, .unset] []) := by
      intro q9
      show Go _ _ _ _ _ s₁ (mkF m 35 #[.val (.int p1), .val (.long p2), .second, .val (.int p3), .val (.int p4), .val (.int p5), .val (.long p6), .second, .val (.int q8), .val (.long q9), .second, .unset, .unset, .unset, .unset, .unset, .unset, .unset, .unset, .unset, .unset, .unset] [])
      refine own_go (fun t k => XS.iload X0.here hx rfl (hb hby at_35) rfl k) ?_
      show Go _ _ _ _ _ s₁ (mkF m 37 #[.val (.int p1), .val (.long p2), .second, .val (.int p3), .val (.int p4), .val (.int p5), .val (.long p6), .second, .val (.int q8), .val (.long q9), .second, .unset, .unset, .unset, .unset, .unset, .unset, .unset, .unset, .unset, .unset, .unset] [(.int p5)])
      refine own_go (fun t k => XS.iconst X0.here hx rfl (hb hby at_37) k) ?_
      show Go _ _ _ _ _ s₁ (mkF m 38 #[.val (.int p1), .val (.long p2), .second, .val (.int p3), .val (.int p4), .val (.int p5), .val (.long p6), .second, .val (.int q8), .val (.long q9), .second, .unset, .unset, .unset, .unset, .unset, .unset, .unset, .unset, .unset, .unset, .unset] [(.int (4 : Int32)), (.int p5)])
      refine own_go (fun t k => XS.iand X0.here hx rfl (hb hby at_38) rfl k) ?_
      have J51 : ∀ (q11 : Int32), Go p e below (EndN s (room_1.cells) (room_1.slots)) (OwnR (some (.int 1)) n0) s₁ (mkF m 56 #[.val (.int p1), .val (.long p2), .second, .val (.int p3), .val (.int p4), .val (.int p5), .val (.long p6), .second, .val (.int q8), .val (.long q9), .second, .val (.int q11), .unset, .unset, .unset, .unset, .unset, .unset, .unset, .unset, .unset, .unset] []) := by
        intro q11
        show Go _ _ _ _ _ s₁ (mkF m 56 #[.val (.int p1), .val (.long p2), .second, .val (.int p3), .val (.int p4), .val (.int p5), .val (.long p6), .second, .val (.int q8), .val (.long q9), .second, .val (.int q11), .unset, .unset, .unset, .unset, .unset, .unset, .unset, .unset, .unset, .unset] [])
        refine own_go (fun t k => XS.iload X0.here hx rfl (hb hby at_56) rfl k) ?_
        show Go _ _ _ _ _ s₁ (mkF m 58 #[.val (.int p1), .val (.long p2), .second, .val (.int p3), .val (.int p4), .val (.int p5), .val (.long p6), .second, .val (.int q8), .val (.long q9), .second, .val (.int q11), .unset, .unset, .unset, .unset, .unset, .unset, .unset, .unset, .unset, .unset] [(.int p5)])
        refine own_go (fun t k => XS.bipush X0.here hx rfl (hb hby at_58) k) ?_
        show Go _ _ _ _ _ s₁ (mkF m 60 #[.val (.int p1), .val (.long p2), .second, .val (.int p3), .val (.int p4), .val (.int p5), .val (.long p6), .second, .val (.int q8), .val (.long q9), .second, .val (.int q11), .unset, .unset, .unset, .unset, .unset, .unset, .unset, .unset, .unset, .unset] [(.int (8 : Int32)), (.int p5)])
        refine own_go (fun t k => XS.iand X0.here hx rfl (hb hby at_60) rfl k) ?_
        have J52 : ∀ (q12 : Int32), Go p e below (EndN s (room_1.cells) (room_1.slots)) (OwnR (some (.int 1)) n0) s₁ (mkF m 80 #[.val (.int p1), .val (.long p2), .second, .val (.int p3), .val (.int p4), .val (.int p5), .val (.long p6), .second, .val (.int q8), .val (.long q9), .second, .val (.int q11), .val (.int q12), .unset, .unset, .unset, .unset, .unset, .unset, .unset, .unset, .unset] []) := by
          intro q12
          show Go _ _ _ _ _ s₁ (mkF m 80 #[.val (.int p1), .val (.long p2), .second, .val (.int p3), .val (.int p4), .val (.int p5), .val (.long p6), .second, .val (.int q8), .val (.long q9), .second, .val (.int q11), .val (.int q12), .unset, .unset, .unset, .unset, .unset, .unset, .unset, .unset, .unset] [])
          refine own_go (fun t k => XS.iload X0.here hx rfl (hb hby at_80) rfl k) ?_
          show Go _ _ _ _ _ s₁ (mkF m 82 #[.val (.int p1), .val (.long p2), .second, .val (.int p3), .val (.int p4), .val (.int p5), .val (.long p6), .second, .val (.int q8), .val (.long q9), .second, .val (.int q11), .val (.int q12), .unset, .unset, .unset, .unset, .unset, .unset, .unset, .unset, .unset] [(.int q8)])
          refine own_go (fun t k => XS.iloadN X0.here hx rfl (hb hby at_82) rfl k) ?_
          show Go _ _ _ _ _ s₁ (mkF m 83 #[.val (.int p1), .val (.long p2), .second, .val (.int p3), .val (.int p4), .val (.int p5), .val (.long p6), .second, .val (.int q8), .val (.long q9), .second, .val (.int q11), .val (.int q12), .unset, .unset, .unset, .unset, .unset, .unset, .unset, .unset, .unset] [(.int p1), (.int q8)])
          refine own_icmpM (q8 = p1) X0 hx (hb hby at_83) (own_ne _ _) (by decide) (by decide) (pc' := 110) (fun hc53 => ?_) (fun hc53 => ?_)
          · skip
            show Go _ _ _ _ _ s₁ (mkF m 110 #[.val (.int p1), .val (.long p2), .second, .val (.int p3), .val (.int p4), .val (.int p5), .val (.long p6), .second, .val (.int q8), .val (.long q9), .second, .val (.int q11), .val (.int q12), .unset, .unset, .unset, .unset, .unset, .unset, .unset, .unset, .unset] [])
            refine own_go (fun t k => XS.iconst X0.here hx rfl (hb hby at_110) k) ?_
            show Go _ _ _ _ _ s₁ (mkF m 111 #[.val (.int p1), .val (.long p2), .second, .val (.int p3), .val (.int p4), .val (.int p5), .val (.long p6), .second, .val (.int q8), .val (.long q9), .second, .val (.int q11), .val (.int q12), .unset, .unset, .unset, .unset, .unset, .unset, .unset, .unset, .unset] [(.int (0 : Int32))])
            refine own_go (fun t k => XS.istore X0.here hx rfl (hb hby at_111) rfl (l' := #[.val (.int p1), .val (.long p2), .second, .val (.int p3), .val (.int p4), .val (.int p5), .val (.long p6), .second, .val (.int q8), .val (.long q9), .second, .val (.int q11), .val (.int q12), .val (.int (0 : Int32)), .unset, .unset, .unset, .unset, .unset, .unset, .unset, .unset]) rfl k) ?_
            have hself : (lcmpW p2 p2) = (0 : Int32) := (lw_eq p2 p2).mpr rfl
            show Go _ _ _ _ _ s₁ (mkF m 113 #[.val (.int p1), .val (.long p2), .second, .val (.int p3), .val (.int p4), .val (.int p5), .val (.long p6), .second, .val (.int q8), .val (.long q9), .second, .val (.int q11), .val (.int q12), .val (.int (0 : Int32)), .unset, .unset, .unset, .unset, .unset, .unset, .unset, .unset] [])
            obtain ⟨T54, h54, X54, e54, E54, A54, D54, -, st54⟩ := newO X0 hx hZ hown (hw _ (List.mem_of_getElem? (i := 0) rfl)) (hw _ (List.mem_of_getElem? (i := 1) rfl)) (hw _ (List.mem_of_getElem? (i := 2) rfl)) e0 (g := (mkF m 113 #[.val (.int p1), .val (.long p2), .second, .val (.int p3), .val (.int p4), .val (.int p5), .val (.long p6), .second, .val (.int q8), .val (.long q9), .second, .val (.int q11), .val (.int q12), .val (.int (0 : Int32)), .unset, .unset, .unset, .unset, .unset, .unset, .unset, .unset] [])) rfl (hb hby at_113) (by decide) (by decide)
            obtain ⟨b54, g54⟩ : ∃ z, z = h0.size := ⟨_, rfl⟩
            rw [← g54] at A54 D54 st54
            have ne_ca_b54 : ¬ ca = b54 := Nat.ne_of_lt (by rw [g54]; exact Ca.lt)
            replace S_high := S_high.ext E54
            replace S_cache := S_cache.ext E54
            replace Ca := Ca.ext E54
            have g_b54 : n0 ≤ b54 := by rw [g54]; exact hn0
            have hn54 : n0 ≤ h54.size := Nat.le_trans hn0 E54.1
            have F_df_b54 : Fld Z h54 b54 "com/example/term_weight_evolver/termweightevolver/constraints/Probe" "df" "I" (.int (0 : Int32)) := D54 (Or.inr (hw _ (List.mem_of_getElem? (i := 10) rfl))) (ty := .int) (by decide)
            have F_cf_b54 : Fld Z h54 b54 "com/example/term_weight_evolver/termweightevolver/constraints/Probe" "cf" "J" (.long (0 : Int64)) := D54 (Or.inr (hw _ (List.mem_of_getElem? (i := 12) rfl))) (ty := .long) (by decide)
            have F_tf_b54 : Fld Z h54 b54 "com/example/term_weight_evolver/termweightevolver/constraints/Probe" "tf" "I" (.int (0 : Int32)) := D54 (Or.inr (hw _ (List.mem_of_getElem? (i := 14) rfl))) (ty := .int) (by decide)
            have F_dl_b54 : Fld Z h54 b54 "com/example/term_weight_evolver/termweightevolver/constraints/Probe" "dl" "I" (.int (0 : Int32)) := D54 (Or.inr (hw _ (List.mem_of_getElem? (i := 16) rfl))) (ty := .int) (by decide)
            refine own_go (fun t k => st54 t k) ?_
            show Go _ _ _ _ _ T54 (mkF m 116 #[.val (.int p1), .val (.long p2), .second, .val (.int p3), .val (.int p4), .val (.int p5), .val (.long p6), .second, .val (.int q8), .val (.long q9), .second, .val (.int q11), .val (.int q12), .val (.int (0 : Int32)), .unset, .unset, .unset, .unset, .unset, .unset, .unset, .unset] [(.ref b54)])
            refine own_go (fun t k => XS.dup X54.here hx rfl (hb hby at_116) rfl rfl k) ?_
            show Go _ _ _ _ _ T54 (mkF m 117 #[.val (.int p1), .val (.long p2), .second, .val (.int p3), .val (.int p4), .val (.int p5), .val (.long p6), .second, .val (.int q8), .val (.long q9), .second, .val (.int q11), .val (.int q12), .val (.int (0 : Int32)), .unset, .unset, .unset, .unset, .unset, .unset, .unset, .unset] [(.ref b54), (.ref b54)])
            refine own_go (fun t k => XS.iloadN X54.here hx rfl (hb hby at_117) rfl k) ?_
            show Go _ _ _ _ _ T54 (mkF m 118 #[.val (.int p1), .val (.long p2), .second, .val (.int p3), .val (.int p4), .val (.int p5), .val (.long p6), .second, .val (.int q8), .val (.long q9), .second, .val (.int q11), .val (.int q12), .val (.int (0 : Int32)), .unset, .unset, .unset, .unset, .unset, .unset, .unset, .unset] [(.int p1), (.ref b54), (.ref b54)])
            refine own_go (fun t k => XS.lloadN X54.here hx rfl (hb hby at_118) rfl k) ?_
            show Go _ _ _ _ _ T54 (mkF m 119 #[.val (.int p1), .val (.long p2), .second, .val (.int p3), .val (.int p4), .val (.int p5), .val (.long p6), .second, .val (.int q8), .val (.long q9), .second, .val (.int q11), .val (.int q12), .val (.int (0 : Int32)), .unset, .unset, .unset, .unset, .unset, .unset, .unset, .unset] [(.long p2), (.int p1), (.ref b54), (.ref b54)])
            refine own_go (fun t k => XS.iloadN X54.here hx rfl (hb hby at_119) rfl k) ?_
            show Go _ _ _ _ _ T54 (mkF m 120 #[.val (.int p1), .val (.long p2), .second, .val (.int p3), .val (.int p4), .val (.int p5), .val (.long p6), .second, .val (.int q8), .val (.long q9), .second, .val (.int q11), .val (.int q12), .val (.int (0 : Int32)), .unset, .unset, .unset, .unset, .unset, .unset, .unset, .unset] [(.int p3), (.long p2), (.int p1), (.ref b54), (.ref b54)])
            refine own_go (fun t k => XS.iload X54.here hx rfl (hb hby at_120) rfl k) ?_
            show Go _ _ _ _ _ T54 (mkF m 122 #[.val (.int p1), .val (.long p2), .second, .val (.int p3), .val (.int p4), .val (.int p5), .val (.long p6), .second, .val (.int q8), .val (.long q9), .second, .val (.int q11), .val (.int q12), .val (.int (0 : Int32)), .unset, .unset, .unset, .unset, .unset, .unset, .unset, .unset] [(.int p4), (.int p3), (.long p2), (.int p1), (.ref b54), (.ref b54)])
            refine own_callI X54 hx hZ (y := (⟨"com/example/term_weight_evolver/termweightevolver/constraints/Probe", "<init>", "(IJII)V"⟩ : MethodName)) rfl hown (hw _ (List.mem_of_getElem? (i := 3) rfl)) (hw _ (List.mem_of_getElem? (i := 4) rfl)) (hw _ (List.mem_of_getElem? (i := 5) rfl)) (hw _ (List.mem_of_getElem? (i := 2) rfl)) (by decide) (rm1 l Z a0 hw [] b54 p1 p2 p3 p4 h54 n0 hn54 A54 g_b54 F_df_b54 F_cf_b54 F_tf_b54 F_dl_b54 ) e54 (b := b54) (by rw [hml]; rfl) (argsL := [(.int p1), (.long p2), (.int p3), (.int p4)]) (rest := [(.ref b54)]) rfl rfl (lenOf own_pd2 rfl) (W := 1) (Nat.le_of_eq rfl) (by decide) (by decide) (hb hby at_122) (by decide) (by decide) ?_
            intro v55 T55 L55 X55 q55
            obtain ⟨rfl, N55q, K55, Ex55, F55_df, F55_cf, F55_tf, F55_dl⟩ := q55
            have N55 := Fr.app N0 N55q
            replace S_high := own_sta_keep S_high K55 (allS ⟨_, A54⟩ all0)
            replace S_cache := own_sta_keep S_cache K55 (allS ⟨_, A54⟩ all0)
            replace Ca := Ca.keep K55 (ninS ne_ca_b54 nin0)
            replace A54 := A54.keep K55
            have hn55 : n0 ≤ T55.heap.size := Nat.le_trans hn54 K55.1
            show Go _ _ _ _ _ T55 (mkF m 125 #[.val (.int p1), .val (.long p2), .second, .val (.int p3), .val (.int p4), .val (.int p5), .val (.long p6), .second, .val (.int q8), .val (.long q9), .second, .val (.int q11), .val (.int q12), .val (.int (0 : Int32)), .unset, .unset, .unset, .unset, .unset, .unset, .unset, .unset] [(.ref b54)])
            refine own_go (fun t k => XS.astore X55.here hx rfl (hb hby at_125) rfl rfl (l' := #[.val (.int p1), .val (.long p2), .second, .val (.int p3), .val (.int p4), .val (.int p5), .val (.long p6), .second, .val (.int q8), .val (.long q9), .second, .val (.int q11), .val (.int q12), .val (.int (0 : Int32)), .val (.ref b54), .unset, .unset, .unset, .unset, .unset, .unset, .unset]) rfl k) ?_
            show Go _ _ _ _ _ T55 (mkF m 127 #[.val (.int p1), .val (.long p2), .second, .val (.int p3), .val (.int p4), .val (.int p5), .val (.long p6), .second, .val (.int q8), .val (.long q9), .second, .val (.int q11), .val (.int q12), .val (.int (0 : Int32)), .val (.ref b54), .unset, .unset, .unset, .unset, .unset, .unset, .unset] [])
            obtain ⟨T56, h56, X56, e56, E56, A56, D56, -, st56⟩ := newO X55 hx hZ hown (hw _ (List.mem_of_getElem? (i := 0) rfl)) (hw _ (List.mem_of_getElem? (i := 1) rfl)) (hw _ (List.mem_of_getElem? (i := 2) rfl)) rfl (g := (mkF m 127 #[.val (.int p1), .val (.long p2), .second, .val (.int p3), .val (.int p4), .val (.int p5), .val (.long p6), .second, .val (.int q8), .val (.long q9), .second, .val (.int q11), .val (.int q12), .val (.int (0 : Int32)), .val (.ref b54), .unset, .unset, .unset, .unset, .unset, .unset, .unset] [])) rfl (hb hby at_127) (by decide) (by decide)
            obtain ⟨b56, g56⟩ : ∃ z, z = T55.heap.size := ⟨_, rfl⟩
            rw [← g56] at A56 D56 st56
            have ne_b54_b56 : ¬ b54 = b56 := Nat.ne_of_lt (by rw [g56]; exact Ex55.lt)
            have ne_ca_b56 : ¬ ca = b56 := Nat.ne_of_lt (by rw [g56]; exact Ca.lt)
            replace S_high := S_high.ext E56
            replace S_cache := S_cache.ext E56
            replace Ex55 := Ex55.ext E56
            replace F55_df := F55_df.ext E56
            replace F55_cf := F55_cf.ext E56
            replace F55_tf := F55_tf.ext E56
            replace F55_dl := F55_dl.ext E56
            replace Ca := Ca.ext E56
            have g_b56 : n0 ≤ b56 := by rw [g56]; exact hn55
            have hn56 : n0 ≤ h56.size := Nat.le_trans hn55 E56.1
            have F_df_b56 : Fld Z h56 b56 "com/example/term_weight_evolver/termweightevolver/constraints/Probe" "df" "I" (.int (0 : Int32)) := D56 (Or.inr (hw _ (List.mem_of_getElem? (i := 10) rfl))) (ty := .int) (by decide)
            have F_cf_b56 : Fld Z h56 b56 "com/example/term_weight_evolver/termweightevolver/constraints/Probe" "cf" "J" (.long (0 : Int64)) := D56 (Or.inr (hw _ (List.mem_of_getElem? (i := 12) rfl))) (ty := .long) (by decide)
            have F_tf_b56 : Fld Z h56 b56 "com/example/term_weight_evolver/termweightevolver/constraints/Probe" "tf" "I" (.int (0 : Int32)) := D56 (Or.inr (hw _ (List.mem_of_getElem? (i := 14) rfl))) (ty := .int) (by decide)
            have F_dl_b56 : Fld Z h56 b56 "com/example/term_weight_evolver/termweightevolver/constraints/Probe" "dl" "I" (.int (0 : Int32)) := D56 (Or.inr (hw _ (List.mem_of_getElem? (i := 16) rfl))) (ty := .int) (by decide)
            refine own_go (fun t k => st56 t k) ?_
            show Go _ _ _ _ _ T56 (mkF m 130 #[.val (.int p1), .val (.long p2), .second, .val (.int p3), .val (.int p4), .val (.int p5), .val (.long p6), .second, .val (.int q8), .val (.long q9), .second, .val (.int q11), .val (.int q12), .val (.int (0 : Int32)), .val (.ref b54), .unset, .unset, .unset, .unset, .unset, .unset, .unset] [(.ref b56)])
            refine own_go (fun t k => XS.dup X56.here hx rfl (hb hby at_130) rfl rfl k) ?_
            show Go _ _ _ _ _ T56 (mkF m 131 #[.val (.int p1), .val (.long p2), .second, .val (.int p3), .val (.int p4), .val (.int p5), .val (.long p6), .second, .val (.int q8), .val (.long q9), .second, .val (.int q11), .val (.int q12), .val (.int (0 : Int32)), .val (.ref b54), .unset, .unset, .unset, .unset, .unset, .unset, .unset] [(.ref b56), (.ref b56)])
            refine own_go (fun t k => XS.iload X56.here hx rfl (hb hby at_131) rfl k) ?_
            show Go _ _ _ _ _ T56 (mkF m 133 #[.val (.int p1), .val (.long p2), .second, .val (.int p3), .val (.int p4), .val (.int p5), .val (.long p6), .second, .val (.int q8), .val (.long q9), .second, .val (.int q11), .val (.int q12), .val (.int (0 : Int32)), .val (.ref b54), .unset, .unset, .unset, .unset, .unset, .unset, .unset] [(.int q8), (.ref b56), (.ref b56)])
            refine own_go (fun t k => XS.lload X56.here hx rfl (hb hby at_133) rfl k) ?_
            show Go _ _ _ _ _ T56 (mkF m 135 #[.val (.int p1), .val (.long p2), .second, .val (.int p3), .val (.int p4), .val (.int p5), .val (.long p6), .second, .val (.int q8), .val (.long q9), .second, .val (.int q11), .val (.int q12), .val (.int (0 : Int32)), .val (.ref b54), .unset, .unset, .unset, .unset, .unset, .unset, .unset] [(.long q9), (.int q8), (.ref b56), (.ref b56)])
            refine own_go (fun t k => XS.iload X56.here hx rfl (hb hby at_135) rfl k) ?_
            show Go _ _ _ _ _ T56 (mkF m 137 #[.val (.int p1), .val (.long p2), .second, .val (.int p3), .val (.int p4), .val (.int p5), .val (.long p6), .second, .val (.int q8), .val (.long q9), .second, .val (.int q11), .val (.int q12), .val (.int (0 : Int32)), .val (.ref b54), .unset, .unset, .unset, .unset, .unset, .unset, .unset] [(.int q11), (.long q9), (.int q8), (.ref b56), (.ref b56)])
            refine own_go (fun t k => XS.iload X56.here hx rfl (hb hby at_137) rfl k) ?_
            show Go _ _ _ _ _ T56 (mkF m 139 #[.val (.int p1), .val (.long p2), .second, .val (.int p3), .val (.int p4), .val (.int p5), .val (.long p6), .second, .val (.int q8), .val (.long q9), .second, .val (.int q11), .val (.int q12), .val (.int (0 : Int32)), .val (.ref b54), .unset, .unset, .unset, .unset, .unset, .unset, .unset] [(.int q12), (.int q11), (.long q9), (.int q8), (.ref b56), (.ref b56)])
            refine own_callI X56 hx hZ (y := (⟨"com/example/term_weight_evolver/termweightevolver/constraints/Probe", "<init>", "(IJII)V"⟩ : MethodName)) rfl hown (hw _ (List.mem_of_getElem? (i := 3) rfl)) (hw _ (List.mem_of_getElem? (i := 4) rfl)) (hw _ (List.mem_of_getElem? (i := 5) rfl)) (hw _ (List.mem_of_getElem? (i := 2) rfl)) (by decide) (rm1 l Z a0 hw [] b56 q8 q9 q11 q12 h56 n0 hn56 A56 g_b56 F_df_b56 F_cf_b56 F_tf_b56 F_dl_b56 ) e56 (b := b56) (by rw [hml]; rfl) (argsL := [(.int q8), (.long q9), (.int q11), (.int q12)]) (rest := [(.ref b56)]) rfl rfl (lenOf own_pd2 rfl) (W := 1) (Nat.le_of_eq rfl) (by decide) (by decide) (hb hby at_139) (by decide) (by decide) ?_
            intro v57 T57 L57 X57 q57
            obtain ⟨rfl, N57q, K57, Ex57, F57_df, F57_cf, F57_tf, F57_dl⟩ := q57
            have N57 := Fr.app N55 N57q
            replace S_high := own_sta_keep S_high K57 (allS ⟨_, A56⟩ all0)
            replace S_cache := own_sta_keep S_cache K57 (allS ⟨_, A56⟩ all0)
            replace F55_df := F55_df.keep K57 (ninS ne_b54_b56 nin0)
            replace F55_cf := F55_cf.keep K57 (ninS ne_b54_b56 nin0)
            replace F55_tf := F55_tf.keep K57 (ninS ne_b54_b56 nin0)
            replace F55_dl := F55_dl.keep K57 (ninS ne_b54_b56 nin0)
            replace Ca := Ca.keep K57 (ninS ne_ca_b56 nin0)
            replace Ex55 := Ex55.keep K57
            replace A56 := A56.keep K57
            have hn57 : n0 ≤ T57.heap.size := Nat.le_trans hn56 K57.1
            show Go _ _ _ _ _ T57 (mkF m 142 #[.val (.int p1), .val (.long p2), .second, .val (.int p3), .val (.int p4), .val (.int p5), .val (.long p6), .second, .val (.int q8), .val (.long q9), .second, .val (.int q11), .val (.int q12), .val (.int (0 : Int32)), .val (.ref b54), .unset, .unset, .unset, .unset, .unset, .unset, .unset] [(.ref b56)])
            refine own_go (fun t k => XS.astore X57.here hx rfl (hb hby at_142) rfl rfl (l' := #[.val (.int p1), .val (.long p2), .second, .val (.int p3), .val (.int p4), .val (.int p5), .val (.long p6), .second, .val (.int q8), .val (.long q9), .second, .val (.int q11), .val (.int q12), .val (.int (0 : Int32)), .val (.ref b54), .val (.ref b56), .unset, .unset, .unset, .unset, .unset, .unset]) rfl k) ?_
            show Go _ _ _ _ _ T57 (mkF m 144 #[.val (.int p1), .val (.long p2), .second, .val (.int p3), .val (.int p4), .val (.int p5), .val (.long p6), .second, .val (.int q8), .val (.long q9), .second, .val (.int q11), .val (.int q12), .val (.int (0 : Int32)), .val (.ref b54), .val (.ref b56), .unset, .unset, .unset, .unset, .unset, .unset] [])
            refine own_go (fun t k => XS.iloadN X57.here hx rfl (hb hby at_144) rfl k) ?_
            show Go _ _ _ _ _ T57 (mkF m 145 #[.val (.int p1), .val (.long p2), .second, .val (.int p3), .val (.int p4), .val (.int p5), .val (.long p6), .second, .val (.int q8), .val (.long q9), .second, .val (.int q11), .val (.int q12), .val (.int (0 : Int32)), .val (.ref b54), .val (.ref b56), .unset, .unset, .unset, .unset, .unset, .unset] [(.int p1)])
            refine own_callS X57 hx hZ (y := (⟨"java/lang/Integer", "valueOf", "(I)Ljava/lang/Integer;"⟩ : MethodName)) hown (hw _ (List.mem_of_getElem? (i := 17) rfl)) (hw _ (List.mem_of_getElem? (i := 18) rfl)) (hw _ (List.mem_of_getElem? (i := 19) rfl)) (hw _ (List.mem_of_getElem? (i := 20) rfl)) (by decide) (rm3 l Z a0 hw [] p1 ca T57.heap n0 hn57 S_high S_cache Ca) rfl (by rw [hml]; rfl) (argsL := [(.int p1)]) (rest := []) rfl rfl (lenOf own_pd3 rfl) (W := 0) (Nat.le_of_eq rfl) (by decide) (by decide) (hb hby at_145) (by decide) (by decide) ?_
            intro v58 T58 L58 X58 q58
            obtain ⟨b58, rfl, N58q, K58, Ex58⟩ := q58
            have N58 := Fr.app N57 N58q
            replace S_high := own_sta_keep S_high K58 all0
            replace S_cache := own_sta_keep S_cache K58 all0
            replace F55_df := F55_df.keep K58 nin0
            replace F55_cf := F55_cf.keep K58 nin0
            replace F55_tf := F55_tf.keep K58 nin0
            replace F55_dl := F55_dl.keep K58 nin0
            replace F57_df := F57_df.keep K58 nin0
            replace F57_cf := F57_cf.keep K58 nin0
            replace F57_tf := F57_tf.keep K58 nin0
            replace F57_dl := F57_dl.keep K58 nin0
            replace Ca := Ca.keep K58 nin0
            replace Ex55 := Ex55.keep K58
            replace Ex57 := Ex57.keep K58
            have hn58 : n0 ≤ T58.heap.size := Nat.le_trans hn57 K58.1
            show Go _ _ _ _ _ T58 (mkF m 148 #[.val (.int p1), .val (.long p2), .second, .val (.int p3), .val (.int p4), .val (.int p5), .val (.long p6), .second, .val (.int q8), .val (.long q9), .second, .val (.int q11), .val (.int q12), .val (.int (0 : Int32)), .val (.ref b54), .val (.ref b56), .unset, .unset, .unset, .unset, .unset, .unset] [(.ref b58)])
            refine own_go (fun t k => XS.astore X58.here hx rfl (hb hby at_148) rfl rfl (l' := #[.val (.int p1), .val (.long p2), .second, .val (.int p3), .val (.int p4), .val (.int p5), .val (.long p6), .second, .val (.int q8), .val (.long q9), .second, .val (.int q11), .val (.int q12), .val (.int (0 : Int32)), .val (.ref b54), .val (.ref b56), .val (.ref b58), .unset, .unset, .unset, .unset, .unset]) rfl k) ?_
            show Go _ _ _ _ _ T58 (mkF m 150 #[.val (.int p1), .val (.long p2), .second, .val (.int p3), .val (.int p4), .val (.int p5), .val (.long p6), .second, .val (.int q8), .val (.long q9), .second, .val (.int q11), .val (.int q12), .val (.int (0 : Int32)), .val (.ref b54), .val (.ref b56), .val (.ref b58), .unset, .unset, .unset, .unset, .unset] [])
            refine own_go (fun t k => XS.aload X58.here hx rfl (hb hby at_150) rfl rfl k) ?_
            show Go _ _ _ _ _ T58 (mkF m 152 #[.val (.int p1), .val (.long p2), .second, .val (.int p3), .val (.int p4), .val (.int p5), .val (.long p6), .second, .val (.int q8), .val (.long q9), .second, .val (.int q11), .val (.int q12), .val (.int (0 : Int32)), .val (.ref b54), .val (.ref b56), .val (.ref b58), .unset, .unset, .unset, .unset, .unset] [(.ref b54)])
            refine own_go (fun t k => XS.aload X58.here hx rfl (hb hby at_152) rfl rfl k) ?_
            show Go _ _ _ _ _ T58 (mkF m 154 #[.val (.int p1), .val (.long p2), .second, .val (.int p3), .val (.int p4), .val (.int p5), .val (.long p6), .second, .val (.int q8), .val (.long q9), .second, .val (.int q11), .val (.int q12), .val (.int (0 : Int32)), .val (.ref b54), .val (.ref b56), .val (.ref b58), .unset, .unset, .unset, .unset, .unset] [(.ref b56), (.ref b54)])
            refine own_callV X58 hx hZ (y := (⟨"com/example/term_weight_evolver/termweightevolver/constraints/Probe", "equals", "(Ljava/lang/Object;)Z"⟩ : MethodName)) hown (hw _ (List.mem_of_getElem? (i := 24) rfl)) (hw _ (List.mem_of_getElem? (i := 25) rfl)) (hw _ (List.mem_of_getElem? (i := 27) rfl)) (hw _ (List.mem_of_getElem? (i := 26) rfl)) (hw _ (List.mem_of_getElem? (i := 28) rfl)) (hw _ (List.mem_of_getElem? (i := 2) rfl)) (by decide) (rm_eq_same l Z a0 hw [] b54 b56 p1 p2 p3 p4 q8 q9 q11 q12 (0 : Int32) T58.heap n0 hn58 Ex57 F55_df F55_cf F55_tf F55_dl F57_df F57_cf F57_tf F57_dl (by rw [own_f_rm_eq_same, if_neg (fun q => hc53 q.symm)]; try first | rfl | decide)) rfl Ex55 (by rw [hml]; rfl) (argsL := [(.ref b56)]) (rest := []) rfl rfl (lenOf own_pd4 rfl) (W := 0) (Nat.le_of_eq rfl) (by decide) (by decide) (hb hby at_154) (by decide) (by decide) ?_
            intro v59 T59 L59 X59 q59
            obtain ⟨rfl, N59q, e59⟩ := q59
            have N59 := Fr.app N58 N59q
            show Go _ _ _ _ _ T59 (mkF m 157 #[.val (.int p1), .val (.long p2), .second, .val (.int p3), .val (.int p4), .val (.int p5), .val (.long p6), .second, .val (.int q8), .val (.long q9), .second, .val (.int q11), .val (.int q12), .val (.int (0 : Int32)), .val (.ref b54), .val (.ref b56), .val (.ref b58), .unset, .unset, .unset, .unset, .unset] [(.int (0 : Int32))])
            refine own_go (fun t k => XS.istore X59.here hx rfl (hb hby at_157) rfl (l' := #[.val (.int p1), .val (.long p2), .second, .val (.int p3), .val (.int p4), .val (.int p5), .val (.long p6), .second, .val (.int q8), .val (.long q9), .second, .val (.int q11), .val (.int q12), .val (.int (0 : Int32)), .val (.ref b54), .val (.ref b56), .val (.ref b58), .val (.int (0 : Int32)), .unset, .unset, .unset, .unset]) rfl k) ?_
            show Go _ _ _ _ _ T59 (mkF m 159 #[.val (.int p1), .val (.long p2), .second, .val (.int p3), .val (.int p4), .val (.int p5), .val (.long p6), .second, .val (.int q8), .val (.long q9), .second, .val (.int q11), .val (.int q12), .val (.int (0 : Int32)), .val (.ref b54), .val (.ref b56), .val (.ref b58), .val (.int (0 : Int32)), .unset, .unset, .unset, .unset] [])
            refine own_go (fun t k => XS.aload X59.here hx rfl (hb hby at_159) rfl rfl k) ?_
            show Go _ _ _ _ _ T59 (mkF m 161 #[.val (.int p1), .val (.long p2), .second, .val (.int p3), .val (.int p4), .val (.int p5), .val (.long p6), .second, .val (.int q8), .val (.long q9), .second, .val (.int q11), .val (.int q12), .val (.int (0 : Int32)), .val (.ref b54), .val (.ref b56), .val (.ref b58), .val (.int (0 : Int32)), .unset, .unset, .unset, .unset] [(.ref b56)])
            refine own_go (fun t k => XS.aload X59.here hx rfl (hb hby at_161) rfl rfl k) ?_
            show Go _ _ _ _ _ T59 (mkF m 163 #[.val (.int p1), .val (.long p2), .second, .val (.int p3), .val (.int p4), .val (.int p5), .val (.long p6), .second, .val (.int q8), .val (.long q9), .second, .val (.int q11), .val (.int q12), .val (.int (0 : Int32)), .val (.ref b54), .val (.ref b56), .val (.ref b58), .val (.int (0 : Int32)), .unset, .unset, .unset, .unset] [(.ref b54), (.ref b56)])
            refine own_callV X59 hx hZ (y := (⟨"com/example/term_weight_evolver/termweightevolver/constraints/Probe", "equals", "(Ljava/lang/Object;)Z"⟩ : MethodName)) hown (hw _ (List.mem_of_getElem? (i := 24) rfl)) (hw _ (List.mem_of_getElem? (i := 25) rfl)) (hw _ (List.mem_of_getElem? (i := 27) rfl)) (hw _ (List.mem_of_getElem? (i := 26) rfl)) (hw _ (List.mem_of_getElem? (i := 28) rfl)) (hw _ (List.mem_of_getElem? (i := 2) rfl)) (by decide) (rm_eq_same l Z a0 hw [] b56 b54 q8 q9 q11 q12 p1 p2 p3 p4 (0 : Int32) T58.heap n0 hn58 Ex55 F57_df F57_cf F57_tf F57_dl F55_df F55_cf F55_tf F55_dl (by rw [own_f_rm_eq_same, if_neg hc53]; try first | rfl | decide)) e59 Ex57 (by rw [hml]; rfl) (argsL := [(.ref b54)]) (rest := []) rfl rfl (lenOf own_pd4 rfl) (W := 0) (Nat.le_of_eq rfl) (by decide) (by decide) (hb hby at_163) (by decide) (by decide) ?_
            intro v60 T60 L60 X60 q60
            obtain ⟨rfl, N60q, e60⟩ := q60
            have N60 := Fr.app N59 N60q
            show Go _ _ _ _ _ T60 (mkF m 166 #[.val (.int p1), .val (.long p2), .second, .val (.int p3), .val (.int p4), .val (.int p5), .val (.long p6), .second, .val (.int q8), .val (.long q9), .second, .val (.int q11), .val (.int q12), .val (.int (0 : Int32)), .val (.ref b54), .val (.ref b56), .val (.ref b58), .val (.int (0 : Int32)), .unset, .unset, .unset, .unset] [(.int (0 : Int32))])
            refine own_go (fun t k => XS.istore X60.here hx rfl (hb hby at_166) rfl (l' := #[.val (.int p1), .val (.long p2), .second, .val (.int p3), .val (.int p4), .val (.int p5), .val (.long p6), .second, .val (.int q8), .val (.long q9), .second, .val (.int q11), .val (.int q12), .val (.int (0 : Int32)), .val (.ref b54), .val (.ref b56), .val (.ref b58), .val (.int (0 : Int32)), .val (.int (0 : Int32)), .unset, .unset, .unset]) rfl k) ?_
            show Go _ _ _ _ _ T60 (mkF m 168 #[.val (.int p1), .val (.long p2), .second, .val (.int p3), .val (.int p4), .val (.int p5), .val (.long p6), .second, .val (.int q8), .val (.long q9), .second, .val (.int q11), .val (.int q12), .val (.int (0 : Int32)), .val (.ref b54), .val (.ref b56), .val (.ref b58), .val (.int (0 : Int32)), .val (.int (0 : Int32)), .unset, .unset, .unset] [])
            refine own_go (fun t k => XS.aload X60.here hx rfl (hb hby at_168) rfl rfl k) ?_
            show Go _ _ _ _ _ T60 (mkF m 170 #[.val (.int p1), .val (.long p2), .second, .val (.int p3), .val (.int p4), .val (.int p5), .val (.long p6), .second, .val (.int q8), .val (.long q9), .second, .val (.int q11), .val (.int q12), .val (.int (0 : Int32)), .val (.ref b54), .val (.ref b56), .val (.ref b58), .val (.int (0 : Int32)), .val (.int (0 : Int32)), .unset, .unset, .unset] [(.ref b54)])
            refine own_go (fun t k => XS.aload X60.here hx rfl (hb hby at_170) rfl rfl k) ?_
            show Go _ _ _ _ _ T60 (mkF m 172 #[.val (.int p1), .val (.long p2), .second, .val (.int p3), .val (.int p4), .val (.int p5), .val (.long p6), .second, .val (.int q8), .val (.long q9), .second, .val (.int q11), .val (.int q12), .val (.int (0 : Int32)), .val (.ref b54), .val (.ref b56), .val (.ref b58), .val (.int (0 : Int32)), .val (.int (0 : Int32)), .unset, .unset, .unset] [(.ref b54), (.ref b54)])
            refine own_callV X60 hx hZ (y := (⟨"com/example/term_weight_evolver/termweightevolver/constraints/Probe", "equals", "(Ljava/lang/Object;)Z"⟩ : MethodName)) hown (hw _ (List.mem_of_getElem? (i := 24) rfl)) (hw _ (List.mem_of_getElem? (i := 25) rfl)) (hw _ (List.mem_of_getElem? (i := 27) rfl)) (hw _ (List.mem_of_getElem? (i := 26) rfl)) (hw _ (List.mem_of_getElem? (i := 28) rfl)) (hw _ (List.mem_of_getElem? (i := 2) rfl)) (by decide) (rm_eq_same l Z a0 hw [] b54 b54 p1 p2 p3 p4 p1 p2 p3 p4 (1 : Int32) T58.heap n0 hn58 Ex55 F55_df F55_cf F55_tf F55_dl F55_df F55_cf F55_tf F55_dl (by rw [own_f_rm_eq_same, if_pos (show p1 = p1 from rfl), if_pos hself, if_pos (show p3 = p3 from rfl), if_pos (show p4 = p4 from rfl)]; try first | rfl | decide)) e60 Ex55 (by rw [hml]; rfl) (argsL := [(.ref b54)]) (rest := []) rfl rfl (lenOf own_pd4 rfl) (W := 0) (Nat.le_of_eq rfl) (by decide) (by decide) (hb hby at_172) (by decide) (by decide) ?_
            intro v61 T61 L61 X61 q61
            obtain ⟨rfl, N61q, e61⟩ := q61
            have N61 := Fr.app N60 N61q
            show Go _ _ _ _ _ T61 (mkF m 175 #[.val (.int p1), .val (.long p2), .second, .val (.int p3), .val (.int p4), .val (.int p5), .val (.long p6), .second, .val (.int q8), .val (.long q9), .second, .val (.int q11), .val (.int q12), .val (.int (0 : Int32)), .val (.ref b54), .val (.ref b56), .val (.ref b58), .val (.int (0 : Int32)), .val (.int (0 : Int32)), .unset, .unset, .unset] [(.int (1 : Int32))])
            refine own_go (fun t k => XS.istore X61.here hx rfl (hb hby at_175) rfl (l' := #[.val (.int p1), .val (.long p2), .second, .val (.int p3), .val (.int p4), .val (.int p5), .val (.long p6), .second, .val (.int q8), .val (.long q9), .second, .val (.int q11), .val (.int q12), .val (.int (0 : Int32)), .val (.ref b54), .val (.ref b56), .val (.ref b58), .val (.int (0 : Int32)), .val (.int (0 : Int32)), .val (.int (1 : Int32)), .unset, .unset]) rfl k) ?_
            show Go _ _ _ _ _ T61 (mkF m 177 #[.val (.int p1), .val (.long p2), .second, .val (.int p3), .val (.int p4), .val (.int p5), .val (.long p6), .second, .val (.int q8), .val (.long q9), .second, .val (.int q11), .val (.int q12), .val (.int (0 : Int32)), .val (.ref b54), .val (.ref b56), .val (.ref b58), .val (.int (0 : Int32)), .val (.int (0 : Int32)), .val (.int (1 : Int32)), .unset, .unset] [])
            refine own_go (fun t k => XS.aload X61.here hx rfl (hb hby at_177) rfl rfl k) ?_
            show Go _ _ _ _ _ T61 (mkF m 179 #[.val (.int p1), .val (.long p2), .second, .val (.int p3), .val (.int p4), .val (.int p5), .val (.long p6), .second, .val (.int q8), .val (.long q9), .second, .val (.int q11), .val (.int q12), .val (.int (0 : Int32)), .val (.ref b54), .val (.ref b56), .val (.ref b58), .val (.int (0 : Int32)), .val (.int (0 : Int32)), .val (.int (1 : Int32)), .unset, .unset] [(.ref b54)])
            refine own_go (fun t k => XS.aconstNull X61.here hx rfl (hb hby at_179) k) ?_
            show Go _ _ _ _ _ T61 (mkF m 180 #[.val (.int p1), .val (.long p2), .second, .val (.int p3), .val (.int p4), .val (.int p5), .val (.long p6), .second, .val (.int q8), .val (.long q9), .second, .val (.int q11), .val (.int q12), .val (.int (0 : Int32)), .val (.ref b54), .val (.ref b56), .val (.ref b58), .val (.int (0 : Int32)), .val (.int (0 : Int32)), .val (.int (1 : Int32)), .unset, .unset] [.null, (.ref b54)])
            refine own_callV X61 hx hZ (y := (⟨"com/example/term_weight_evolver/termweightevolver/constraints/Probe", "equals", "(Ljava/lang/Object;)Z"⟩ : MethodName)) hown (hw _ (List.mem_of_getElem? (i := 24) rfl)) (hw _ (List.mem_of_getElem? (i := 25) rfl)) (hw _ (List.mem_of_getElem? (i := 27) rfl)) (hw _ (List.mem_of_getElem? (i := 26) rfl)) (hw _ (List.mem_of_getElem? (i := 28) rfl)) (hw _ (List.mem_of_getElem? (i := 2) rfl)) (by decide) (rm_eq_null l Z a0 hw [] b54 (0 : Int32) T58.heap n0 hn58  (by rw [own_f_rm_eq_null]; try first | rfl | decide)) e61 Ex55 (by rw [hml]; rfl) (argsL := [.null]) (rest := []) rfl rfl (lenOf own_pd4 rfl) (W := 0) (Nat.le_of_eq rfl) (by decide) (by decide) (hb hby at_180) (by decide) (by decide) ?_
            intro v62 T62 L62 X62 q62
            obtain ⟨rfl, N62q, e62⟩ := q62
            have N62 := Fr.app N61 N62q
            show Go _ _ _ _ _ T62 (mkF m 183 #[.val (.int p1), .val (.long p2), .second, .val (.int p3), .val (.int p4), .val (.int p5), .val (.long p6), .second, .val (.int q8), .val (.long q9), .second, .val (.int q11), .val (.int q12), .val (.int (0 : Int32)), .val (.ref b54), .val (.ref b56), .val (.ref b58), .val (.int (0 : Int32)), .val (.int (0 : Int32)), .val (.int (1 : Int32)), .unset, .unset] [(.int (0 : Int32))])
            refine own_go (fun t k => XS.istore X62.here hx rfl (hb hby at_183) rfl (l' := #[.val (.int p1), .val (.long p2), .second, .val (.int p3), .val (.int p4), .val (.int p5), .val (.long p6), .second, .val (.int q8), .val (.long q9), .second, .val (.int q11), .val (.int q12), .val (.int (0 : Int32)), .val (.ref b54), .val (.ref b56), .val (.ref b58), .val (.int (0 : Int32)), .val (.int (0 : Int32)), .val (.int (1 : Int32)), .val (.int (0 : Int32)), .unset]) rfl k) ?_
            show Go _ _ _ _ _ T62 (mkF m 185 #[.val (.int p1), .val (.long p2), .second, .val (.int p3), .val (.int p4), .val (.int p5), .val (.long p6), .second, .val (.int q8), .val (.long q9), .second, .val (.int q11), .val (.int q12), .val (.int (0 : Int32)), .val (.ref b54), .val (.ref b56), .val (.ref b58), .val (.int (0 : Int32)), .val (.int (0 : Int32)), .val (.int (1 : Int32)), .val (.int (0 : Int32)), .unset] [])
            refine own_go (fun t k => XS.aload X62.here hx rfl (hb hby at_185) rfl rfl k) ?_
            show Go _ _ _ _ _ T62 (mkF m 187 #[.val (.int p1), .val (.long p2), .second, .val (.int p3), .val (.int p4), .val (.int p5), .val (.long p6), .second, .val (.int q8), .val (.long q9), .second, .val (.int q11), .val (.int q12), .val (.int (0 : Int32)), .val (.ref b54), .val (.ref b56), .val (.ref b58), .val (.int (0 : Int32)), .val (.int (0 : Int32)), .val (.int (1 : Int32)), .val (.int (0 : Int32)), .unset] [(.ref b54)])
            refine own_go (fun t k => XS.aload X62.here hx rfl (hb hby at_187) rfl rfl k) ?_
            show Go _ _ _ _ _ T62 (mkF m 189 #[.val (.int p1), .val (.long p2), .second, .val (.int p3), .val (.int p4), .val (.int p5), .val (.long p6), .second, .val (.int q8), .val (.long q9), .second, .val (.int q11), .val (.int q12), .val (.int (0 : Int32)), .val (.ref b54), .val (.ref b56), .val (.ref b58), .val (.int (0 : Int32)), .val (.int (0 : Int32)), .val (.int (1 : Int32)), .val (.int (0 : Int32)), .unset] [(.ref b58), (.ref b54)])
            refine own_callV X62 hx hZ (y := (⟨"com/example/term_weight_evolver/termweightevolver/constraints/Probe", "equals", "(Ljava/lang/Object;)Z"⟩ : MethodName)) hown (hw _ (List.mem_of_getElem? (i := 24) rfl)) (hw _ (List.mem_of_getElem? (i := 25) rfl)) (hw _ (List.mem_of_getElem? (i := 27) rfl)) (hw _ (List.mem_of_getElem? (i := 26) rfl)) (hw _ (List.mem_of_getElem? (i := 28) rfl)) (hw _ (List.mem_of_getElem? (i := 2) rfl)) (by decide) (rm_eq_other l Z a0 hw [] b54 b58 (0 : Int32) T58.heap n0 hn58 Ex58 (by rw [own_f_rm_eq_other]; try first | rfl | decide)) e62 Ex55 (by rw [hml]; rfl) (argsL := [(.ref b58)]) (rest := []) rfl rfl (lenOf own_pd4 rfl) (W := 0) (Nat.le_of_eq rfl) (by decide) (by decide) (hb hby at_189) (by decide) (by decide) ?_
            intro v63 T63 L63 X63 q63
            obtain ⟨rfl, N63q, e63⟩ := q63
            have N63 := Fr.app N62 N63q
            show Go _ _ _ _ _ T63 (mkF m 192 #[.val (.int p1), .val (.long p2), .second, .val (.int p3), .val (.int p4), .val (.int p5), .val (.long p6), .second, .val (.int q8), .val (.long q9), .second, .val (.int q11), .val (.int q12), .val (.int (0 : Int32)), .val (.ref b54), .val (.ref b56), .val (.ref b58), .val (.int (0 : Int32)), .val (.int (0 : Int32)), .val (.int (1 : Int32)), .val (.int (0 : Int32)), .unset] [(.int (0 : Int32))])
            refine own_go (fun t k => XS.istore X63.here hx rfl (hb hby at_192) rfl (l' := #[.val (.int p1), .val (.long p2), .second, .val (.int p3), .val (.int p4), .val (.int p5), .val (.long p6), .second, .val (.int q8), .val (.long q9), .second, .val (.int q11), .val (.int q12), .val (.int (0 : Int32)), .val (.ref b54), .val (.ref b56), .val (.ref b58), .val (.int (0 : Int32)), .val (.int (0 : Int32)), .val (.int (1 : Int32)), .val (.int (0 : Int32)), .val (.int (0 : Int32))]) rfl k) ?_
            show Go _ _ _ _ _ T63 (mkF m 194 #[.val (.int p1), .val (.long p2), .second, .val (.int p3), .val (.int p4), .val (.int p5), .val (.long p6), .second, .val (.int q8), .val (.long q9), .second, .val (.int q11), .val (.int q12), .val (.int (0 : Int32)), .val (.ref b54), .val (.ref b56), .val (.ref b58), .val (.int (0 : Int32)), .val (.int (0 : Int32)), .val (.int (1 : Int32)), .val (.int (0 : Int32)), .val (.int (0 : Int32))] [])
            refine own_go (fun t k => XS.iload X63.here hx rfl (hb hby at_194) rfl k) ?_
            show Go _ _ _ _ _ T63 (mkF m 196 #[.val (.int p1), .val (.long p2), .second, .val (.int p3), .val (.int p4), .val (.int p5), .val (.long p6), .second, .val (.int q8), .val (.long q9), .second, .val (.int q11), .val (.int q12), .val (.int (0 : Int32)), .val (.ref b54), .val (.ref b56), .val (.ref b58), .val (.int (0 : Int32)), .val (.int (0 : Int32)), .val (.int (1 : Int32)), .val (.int (0 : Int32)), .val (.int (0 : Int32))] [(.int (0 : Int32))])
            refine own_go (fun t k => XS.iload X63.here hx rfl (hb hby at_196) rfl k) ?_
            show Go _ _ _ _ _ T63 (mkF m 198 #[.val (.int p1), .val (.long p2), .second, .val (.int p3), .val (.int p4), .val (.int p5), .val (.long p6), .second, .val (.int q8), .val (.long q9), .second, .val (.int q11), .val (.int q12), .val (.int (0 : Int32)), .val (.ref b54), .val (.ref b56), .val (.ref b58), .val (.int (0 : Int32)), .val (.int (0 : Int32)), .val (.int (1 : Int32)), .val (.int (0 : Int32)), .val (.int (0 : Int32))] [(.int (0 : Int32)), (.int (0 : Int32))])
            refine own_go (fun t k => XS.icmpNo X63.here hx rfl (hb hby at_198) rfl (by decide) k) ?_
            show Go _ _ _ _ _ T63 (mkF m 201 #[.val (.int p1), .val (.long p2), .second, .val (.int p3), .val (.int p4), .val (.int p5), .val (.long p6), .second, .val (.int q8), .val (.long q9), .second, .val (.int q11), .val (.int q12), .val (.int (0 : Int32)), .val (.ref b54), .val (.ref b56), .val (.ref b58), .val (.int (0 : Int32)), .val (.int (0 : Int32)), .val (.int (1 : Int32)), .val (.int (0 : Int32)), .val (.int (0 : Int32))] [])
            refine own_go (fun t k => XS.iload X63.here hx rfl (hb hby at_201) rfl k) ?_
            show Go _ _ _ _ _ T63 (mkF m 203 #[.val (.int p1), .val (.long p2), .second, .val (.int p3), .val (.int p4), .val (.int p5), .val (.long p6), .second, .val (.int q8), .val (.long q9), .second, .val (.int q11), .val (.int q12), .val (.int (0 : Int32)), .val (.ref b54), .val (.ref b56), .val (.ref b58), .val (.int (0 : Int32)), .val (.int (0 : Int32)), .val (.int (1 : Int32)), .val (.int (0 : Int32)), .val (.int (0 : Int32))] [(.int (0 : Int32))])
            refine own_go (fun t k => XS.iload X63.here hx rfl (hb hby at_203) rfl k) ?_
            show Go _ _ _ _ _ T63 (mkF m 205 #[.val (.int p1), .val (.long p2), .second, .val (.int p3), .val (.int p4), .val (.int p5), .val (.long p6), .second, .val (.int q8), .val (.long q9), .second, .val (.int q11), .val (.int q12), .val (.int (0 : Int32)), .val (.ref b54), .val (.ref b56), .val (.ref b58), .val (.int (0 : Int32)), .val (.int (0 : Int32)), .val (.int (1 : Int32)), .val (.int (0 : Int32)), .val (.int (0 : Int32))] [(.int (0 : Int32)), (.int (0 : Int32))])
            refine own_go (fun t k => XS.icmpNo X63.here hx rfl (hb hby at_205) rfl (by decide) k) ?_
            show Go _ _ _ _ _ T63 (mkF m 208 #[.val (.int p1), .val (.long p2), .second, .val (.int p3), .val (.int p4), .val (.int p5), .val (.long p6), .second, .val (.int q8), .val (.long q9), .second, .val (.int q11), .val (.int q12), .val (.int (0 : Int32)), .val (.ref b54), .val (.ref b56), .val (.ref b58), .val (.int (0 : Int32)), .val (.int (0 : Int32)), .val (.int (1 : Int32)), .val (.int (0 : Int32)), .val (.int (0 : Int32))] [])
            refine own_go (fun t k => XS.iload X63.here hx rfl (hb hby at_208) rfl k) ?_
            show Go _ _ _ _ _ T63 (mkF m 210 #[.val (.int p1), .val (.long p2), .second, .val (.int p3), .val (.int p4), .val (.int p5), .val (.long p6), .second, .val (.int q8), .val (.long q9), .second, .val (.int q11), .val (.int q12), .val (.int (0 : Int32)), .val (.ref b54), .val (.ref b56), .val (.ref b58), .val (.int (0 : Int32)), .val (.int (0 : Int32)), .val (.int (1 : Int32)), .val (.int (0 : Int32)), .val (.int (0 : Int32))] [(.int (1 : Int32))])
            refine own_go (fun t k => XS.ifNo X63.here hx rfl (hb hby at_210) rfl (by decide) k) ?_
            show Go _ _ _ _ _ T63 (mkF m 213 #[.val (.int p1), .val (.long p2), .second, .val (.int p3), .val (.int p4), .val (.int p5), .val (.long p6), .second, .val (.int q8), .val (.long q9), .second, .val (.int q11), .val (.int q12), .val (.int (0 : Int32)), .val (.ref b54), .val (.ref b56), .val (.ref b58), .val (.int (0 : Int32)), .val (.int (0 : Int32)), .val (.int (1 : Int32)), .val (.int (0 : Int32)), .val (.int (0 : Int32))] [])
            refine own_go (fun t k => XS.iload X63.here hx rfl (hb hby at_213) rfl k) ?_
            show Go _ _ _ _ _ T63 (mkF m 215 #[.val (.int p1), .val (.long p2), .second, .val (.int p3), .val (.int p4), .val (.int p5), .val (.long p6), .second, .val (.int q8), .val (.long q9), .second, .val (.int q11), .val (.int q12), .val (.int (0 : Int32)), .val (.ref b54), .val (.ref b56), .val (.ref b58), .val (.int (0 : Int32)), .val (.int (0 : Int32)), .val (.int (1 : Int32)), .val (.int (0 : Int32)), .val (.int (0 : Int32))] [(.int (0 : Int32))])
            refine own_go (fun t k => XS.ifNo X63.here hx rfl (hb hby at_215) rfl (by decide) k) ?_
            show Go _ _ _ _ _ T63 (mkF m 218 #[.val (.int p1), .val (.long p2), .second, .val (.int p3), .val (.int p4), .val (.int p5), .val (.long p6), .second, .val (.int q8), .val (.long q9), .second, .val (.int q11), .val (.int q12), .val (.int (0 : Int32)), .val (.ref b54), .val (.ref b56), .val (.ref b58), .val (.int (0 : Int32)), .val (.int (0 : Int32)), .val (.int (1 : Int32)), .val (.int (0 : Int32)), .val (.int (0 : Int32))] [])
            refine own_go (fun t k => XS.iload X63.here hx rfl (hb hby at_218) rfl k) ?_
            show Go _ _ _ _ _ T63 (mkF m 220 #[.val (.int p1), .val (.long p2), .second, .val (.int p3), .val (.int p4), .val (.int p5), .val (.long p6), .second, .val (.int q8), .val (.long q9), .second, .val (.int q11), .val (.int q12), .val (.int (0 : Int32)), .val (.ref b54), .val (.ref b56), .val (.ref b58), .val (.int (0 : Int32)), .val (.int (0 : Int32)), .val (.int (1 : Int32)), .val (.int (0 : Int32)), .val (.int (0 : Int32))] [(.int (0 : Int32))])
            refine own_go (fun t k => XS.ifNo X63.here hx rfl (hb hby at_220) rfl (by decide) k) ?_
            show Go _ _ _ _ _ T63 (mkF m 223 #[.val (.int p1), .val (.long p2), .second, .val (.int p3), .val (.int p4), .val (.int p5), .val (.long p6), .second, .val (.int q8), .val (.long q9), .second, .val (.int q11), .val (.int q12), .val (.int (0 : Int32)), .val (.ref b54), .val (.ref b56), .val (.ref b58), .val (.int (0 : Int32)), .val (.int (0 : Int32)), .val (.int (1 : Int32)), .val (.int (0 : Int32)), .val (.int (0 : Int32))] [])
            refine own_go (fun t k => XS.iconst X63.here hx rfl (hb hby at_223) k) ?_
            show Go _ _ _ _ _ T63 (mkF m 224 #[.val (.int p1), .val (.long p2), .second, .val (.int p3), .val (.int p4), .val (.int p5), .val (.long p6), .second, .val (.int q8), .val (.long q9), .second, .val (.int q11), .val (.int q12), .val (.int (0 : Int32)), .val (.ref b54), .val (.ref b56), .val (.ref b58), .val (.int (0 : Int32)), .val (.int (0 : Int32)), .val (.int (1 : Int32)), .val (.int (0 : Int32)), .val (.int (0 : Int32))] [(.int (1 : Int32))])
            refine own_go (fun t k => XS.goto X63.here hx rfl (pc0 := 224) (pc' := 228) rfl (hb hby at_224) (by decide) (by decide) k) ?_
            show Go _ _ _ _ _ T63 (mkF m 228 #[.val (.int p1), .val (.long p2), .second, .val (.int p3), .val (.int p4), .val (.int p5), .val (.long p6), .second, .val (.int q8), .val (.long q9), .second, .val (.int q11), .val (.int q12), .val (.int (0 : Int32)), .val (.ref b54), .val (.ref b56), .val (.ref b58), .val (.int (0 : Int32)), .val (.int (0 : Int32)), .val (.int (1 : Int32)), .val (.int (0 : Int32)), .val (.int (0 : Int32))] [(.int (1 : Int32))])
            refine own_retN X63 hx (own_lvN X63 hlk (by decide) (by decide)) (t := .boolean) hret (by simp) (hb hby at_228) ?_
            exact ⟨rfl, N63⟩
          · skip
            show Go _ _ _ _ _ s₁ (mkF m 86 #[.val (.int p1), .val (.long p2), .second, .val (.int p3), .val (.int p4), .val (.int p5), .val (.long p6), .second, .val (.int q8), .val (.long q9), .second, .val (.int q11), .val (.int q12), .unset, .unset, .unset, .unset, .unset, .unset, .unset, .unset, .unset] [])
            refine own_go (fun t k => XS.lload X0.here hx rfl (hb hby at_86) rfl k) ?_
            show Go _ _ _ _ _ s₁ (mkF m 88 #[.val (.int p1), .val (.long p2), .second, .val (.int p3), .val (.int p4), .val (.int p5), .val (.long p6), .second, .val (.int q8), .val (.long q9), .second, .val (.int q11), .val (.int q12), .unset, .unset, .unset, .unset, .unset, .unset, .unset, .unset, .unset] [(.long q9)])
            refine own_go (fun t k => XS.lloadN X0.here hx rfl (hb hby at_88) rfl k) ?_
            show Go _ _ _ _ _ s₁ (mkF m 89 #[.val (.int p1), .val (.long p2), .second, .val (.int p3), .val (.int p4), .val (.int p5), .val (.long p6), .second, .val (.int q8), .val (.long q9), .second, .val (.int q11), .val (.int q12), .unset, .unset, .unset, .unset, .unset, .unset, .unset, .unset, .unset] [(.long p2), (.long q9)])
            refine own_go (fun t k => XS.lcmp X0.here hx rfl (hb hby at_89) rfl k) ?_
            show Go _ _ _ _ _ s₁ (mkF m 90 #[.val (.int p1), .val (.long p2), .second, .val (.int p3), .val (.int p4), .val (.int p5), .val (.long p6), .second, .val (.int q8), .val (.long q9), .second, .val (.int q11), .val (.int q12), .unset, .unset, .unset, .unset, .unset, .unset, .unset, .unset, .unset] [(.int (lcmpW q9 p2))])
            refine own_ifM ((lcmpW q9 p2) = (0 : Int32)) X0 hx (hb hby at_90) (own_ne _ _) (by decide) (by decide) (pc' := 110) (fun hc64 => ?_) (fun hc64 => ?_)
            · skip
              show Go _ _ _ _ _ s₁ (mkF m 110 #[.val (.int p1), .val (.long p2), .second, .val (.int p3), .val (.int p4), .val (.int p5), .val (.long p6), .second, .val (.int q8), .val (.long q9), .second, .val (.int q11), .val (.int q12), .unset, .unset, .unset, .unset, .unset, .unset, .unset, .unset, .unset] [])
              refine own_go (fun t k => XS.iconst X0.here hx rfl (hb hby at_110) k) ?_
              show Go _ _ _ _ _ s₁ (mkF m 111 #[.val (.int p1), .val (.long p2), .second, .val (.int p3), .val (.int p4), .val (.int p5), .val (.long p6), .second, .val (.int q8), .val (.long q9), .second, .val (.int q11), .val (.int q12), .unset, .unset, .unset, .unset, .unset, .unset, .unset, .unset, .unset] [(.int (0 : Int32))])
              refine own_go (fun t k => XS.istore X0.here hx rfl (hb hby at_111) rfl (l' := #[.val (.int p1), .val (.long p2), .second, .val (.int p3), .val (.int p4), .val (.int p5), .val (.long p6), .second, .val (.int q8), .val (.long q9), .second, .val (.int q11), .val (.int q12), .val (.int (0 : Int32)), .unset, .unset, .unset, .unset, .unset, .unset, .unset, .unset]) rfl k) ?_
              have hsym : ¬ ((lcmpW p2 q9) = (0 : Int32)) := fun q => hc64 ((lw_eq q9 p2).mpr ((lw_eq p2 q9).mp q).symm)
              have hself : (lcmpW p2 p2) = (0 : Int32) := (lw_eq p2 p2).mpr rfl
              show Go _ _ _ _ _ s₁ (mkF m 113 #[.val (.int p1), .val (.long p2), .second, .val (.int p3), .val (.int p4), .val (.int p5), .val (.long p6), .second, .val (.int q8), .val (.long q9), .second, .val (.int q11), .val (.int q12), .val (.int (0 : Int32)), .unset, .unset, .unset, .unset, .unset, .unset, .unset, .unset] [])
              obtain ⟨T65, h65, X65, e65, E65, A65, D65, -, st65⟩ := newO X0 hx hZ hown (hw _ (List.mem_of_getElem? (i := 0) rfl)) (hw _ (List.mem_of_getElem? (i := 1) rfl)) (hw _ (List.mem_of_getElem? (i := 2) rfl)) e0 (g := (mkF m 113 #[.val (.int p1), .val (.long p2), .second, .val (.int p3), .val (.int p4), .val (.int p5), .val (.long p6), .second, .val (.int q8), .val (.long q9), .second, .val (.int q11), .val (.int q12), .val (.int (0 : Int32)), .unset, .unset, .unset, .unset, .unset, .unset, .unset, .unset] [])) rfl (hb hby at_113) (by decide) (by decide)
              obtain ⟨b65, g65⟩ : ∃ z, z = h0.size := ⟨_, rfl⟩
              rw [← g65] at A65 D65 st65
              have ne_ca_b65 : ¬ ca = b65 := Nat.ne_of_lt (by rw [g65]; exact Ca.lt)
              replace S_high := S_high.ext E65
              replace S_cache := S_cache.ext E65
              replace Ca := Ca.ext E65
              have g_b65 : n0 ≤ b65 := by rw [g65]; exact hn0
              have hn65 : n0 ≤ h65.size := Nat.le_trans hn0 E65.1
              have F_df_b65 : Fld Z h65 b65 "com/example/term_weight_evolver/termweightevolver/constraints/Probe" "df" "I" (.int (0 : Int32)) := D65 (Or.inr (hw _ (List.mem_of_getElem? (i := 10) rfl))) (ty := .int) (by decide)
              have F_cf_b65 : Fld Z h65 b65 "com/example/term_weight_evolver/termweightevolver/constraints/Probe" "cf" "J" (.long (0 : Int64)) := D65 (Or.inr (hw _ (List.mem_of_getElem? (i := 12) rfl))) (ty := .long) (by decide)
              have F_tf_b65 : Fld Z h65 b65 "com/example/term_weight_evolver/termweightevolver/constraints/Probe" "tf" "I" (.int (0 : Int32)) := D65 (Or.inr (hw _ (List.mem_of_getElem? (i := 14) rfl))) (ty := .int) (by decide)
              have F_dl_b65 : Fld Z h65 b65 "com/example/term_weight_evolver/termweightevolver/constraints/Probe" "dl" "I" (.int (0 : Int32)) := D65 (Or.inr (hw _ (List.mem_of_getElem? (i := 16) rfl))) (ty := .int) (by decide)
              refine own_go (fun t k => st65 t k) ?_
              show Go _ _ _ _ _ T65 (mkF m 116 #[.val (.int p1), .val (.long p2), .second, .val (.int p3), .val (.int p4), .val (.int p5), .val (.long p6), .second, .val (.int q8), .val (.long q9), .second, .val (.int q11), .val (.int q12), .val (.int (0 : Int32)), .unset, .unset, .unset, .unset, .unset, .unset, .unset, .unset] [(.ref b65)])
              refine own_go (fun t k => XS.dup X65.here hx rfl (hb hby at_116) rfl rfl k) ?_
              show Go _ _ _ _ _ T65 (mkF m 117 #[.val (.int p1), .val (.long p2), .second, .val (.int p3), .val (.int p4), .val (.int p5), .val (.long p6), .second, .val (.int q8), .val (.long q9), .second, .val (.int q11), .val (.int q12), .val (.int (0 : Int32)), .unset, .unset, .unset, .unset, .unset, .unset, .unset, .unset] [(.ref b65), (.ref b65)])
              refine own_go (fun t k => XS.iloadN X65.here hx rfl (hb hby at_117) rfl k) ?_
              show Go _ _ _ _ _ T65 (mkF m 118 #[.val (.int p1), .val (.long p2), .second, .val (.int p3), .val (.int p4), .val (.int p5), .val (.long p6), .second, .val (.int q8), .val (.long q9), .second, .val (.int q11), .val (.int q12), .val (.int (0 : Int32)), .unset, .unset, .unset, .unset, .unset, .unset, .unset, .unset] [(.int p1), (.ref b65), (.ref b65)])
              refine own_go (fun t k => XS.lloadN X65.here hx rfl (hb hby at_118) rfl k) ?_
              show Go _ _ _ _ _ T65 (mkF m 119 #[.val (.int p1), .val (.long p2), .second, .val (.int p3), .val (.int p4), .val (.int p5), .val (.long p6), .second, .val (.int q8), .val (.long q9), .second, .val (.int q11), .val (.int q12), .val (.int (0 : Int32)), .unset, .unset, .unset, .unset, .unset, .unset, .unset, .unset] [(.long p2), (.int p1), (.ref b65), (.ref b65)])
              refine own_go (fun t k => XS.iloadN X65.here hx rfl (hb hby at_119) rfl k) ?_
              show Go _ _ _ _ _ T65 (mkF m 120 #[.val (.int p1), .val (.long p2), .second, .val (.int p3), .val (.int p4), .val (.int p5), .val (.long p6), .second, .val (.int q8), .val (.long q9), .second, .val (.int q11), .val (.int q12), .val (.int (0 : Int32)), .unset, .unset, .unset, .unset, .unset, .unset, .unset, .unset] [(.int p3), (.long p2), (.int p1), (.ref b65), (.ref b65)])
              refine own_go (fun t k => XS.iload X65.here hx rfl (hb hby at_120) rfl k) ?_
              show Go _ _ _ _ _ T65 (mkF m 122 #[.val (.int p1), .val (.long p2), .second, .val (.int p3), .val (.int p4), .val (.int p5), .val (.long p6), .second, .val (.int q8), .val (.long q9), .second, .val (.int q11), .val (.int q12), .val (.int (0 : Int32)), .unset, .unset, .unset, .unset, .unset, .unset, .unset, .unset] [(.int p4), (.int p3), (.long p2), (.int p1), (.ref b65), (.ref b65)])
              refine own_callI X65 hx hZ (y := (⟨"com/example/term_weight_evolver/termweightevolver/constraints/Probe", "<init>", "(IJII)V"⟩ : MethodName)) rfl hown (hw _ (List.mem_of_getElem? (i := 3) rfl)) (hw _ (List.mem_of_getElem? (i := 4) rfl)) (hw _ (List.mem_of_getElem? (i := 5) rfl)) (hw _ (List.mem_of_getElem? (i := 2) rfl)) (by decide) (rm1 l Z a0 hw [] b65 p1 p2 p3 p4 h65 n0 hn65 A65 g_b65 F_df_b65 F_cf_b65 F_tf_b65 F_dl_b65 ) e65 (b := b65) (by rw [hml]; rfl) (argsL := [(.int p1), (.long p2), (.int p3), (.int p4)]) (rest := [(.ref b65)]) rfl rfl (lenOf own_pd2 rfl) (W := 1) (Nat.le_of_eq rfl) (by decide) (by decide) (hb hby at_122) (by decide) (by decide) ?_
              intro v66 T66 L66 X66 q66
              obtain ⟨rfl, N66q, K66, Ex66, F66_df, F66_cf, F66_tf, F66_dl⟩ := q66
              have N66 := Fr.app N0 N66q
              replace S_high := own_sta_keep S_high K66 (allS ⟨_, A65⟩ all0)
              replace S_cache := own_sta_keep S_cache K66 (allS ⟨_, A65⟩ all0)
              replace Ca := Ca.keep K66 (ninS ne_ca_b65 nin0)
              replace A65 := A65.keep K66
              have hn66 : n0 ≤ T66.heap.size := Nat.le_trans hn65 K66.1
              show Go _ _ _ _ _ T66 (mkF m 125 #[.val (.int p1), .val (.long p2), .second, .val (.int p3), .val (.int p4), .val (.int p5), .val (.long p6), .second, .val (.int q8), .val (.long q9), .second, .val (.int q11), .val (.int q12), .val (.int (0 : Int32)), .unset, .unset, .unset, .unset, .unset, .unset, .unset, .unset] [(.ref b65)])
              refine own_go (fun t k => XS.astore X66.here hx rfl (hb hby at_125) rfl rfl (l' := #[.val (.int p1), .val (.long p2), .second, .val (.int p3), .val (.int p4), .val (.int p5), .val (.long p6), .second, .val (.int q8), .val (.long q9), .second, .val (.int q11), .val (.int q12), .val (.int (0 : Int32)), .val (.ref b65), .unset, .unset, .unset, .unset, .unset, .unset, .unset]) rfl k) ?_
              show Go _ _ _ _ _ T66 (mkF m 127 #[.val (.int p1), .val (.long p2), .second, .val (.int p3), .val (.int p4), .val (.int p5), .val (.long p6), .second, .val (.int q8), .val (.long q9), .second, .val (.int q11), .val (.int q12), .val (.int (0 : Int32)), .val (.ref b65), .unset, .unset, .unset, .unset, .unset, .unset, .unset] [])
              obtain ⟨T67, h67, X67, e67, E67, A67, D67, -, st67⟩ := newO X66 hx hZ hown (hw _ (List.mem_of_getElem? (i := 0) rfl)) (hw _ (List.mem_of_getElem? (i := 1) rfl)) (hw _ (List.mem_of_getElem? (i := 2) rfl)) rfl (g := (mkF m 127 #[.val (.int p1), .val (.long p2), .second, .val (.int p3), .val (.int p4), .val (.int p5), .val (.long p6), .second, .val (.int q8), .val (.long q9), .second, .val (.int q11), .val (.int q12), .val (.int (0 : Int32)), .val (.ref b65), .unset, .unset, .unset, .unset, .unset, .unset, .unset] [])) rfl (hb hby at_127) (by decide) (by decide)
              obtain ⟨b67, g67⟩ : ∃ z, z = T66.heap.size := ⟨_, rfl⟩
              rw [← g67] at A67 D67 st67
              have ne_b65_b67 : ¬ b65 = b67 := Nat.ne_of_lt (by rw [g67]; exact Ex66.lt)
              have ne_ca_b67 : ¬ ca = b67 := Nat.ne_of_lt (by rw [g67]; exact Ca.lt)
              replace S_high := S_high.ext E67
              replace S_cache := S_cache.ext E67
              replace Ex66 := Ex66.ext E67
              replace F66_df := F66_df.ext E67
              replace F66_cf := F66_cf.ext E67
              replace F66_tf := F66_tf.ext E67
              replace F66_dl := F66_dl.ext E67
              replace Ca := Ca.ext E67
              have g_b67 : n0 ≤ b67 := by rw [g67]; exact hn66
              have hn67 : n0 ≤ h67.size := Nat.le_trans hn66 E67.1
              have F_df_b67 : Fld Z h67 b67 "com/example/term_weight_evolver/termweightevolver/constraints/Probe" "df" "I" (.int (0 : Int32)) := D67 (Or.inr (hw _ (List.mem_of_getElem? (i := 10) rfl))) (ty := .int) (by decide)
              have F_cf_b67 : Fld Z h67 b67 "com/example/term_weight_evolver/termweightevolver/constraints/Probe" "cf" "J" (.long (0 : Int64)) := D67 (Or.inr (hw _ (List.mem_of_getElem? (i := 12) rfl))) (ty := .long) (by decide)
              have F_tf_b67 : Fld Z h67 b67 "com/example/term_weight_evolver/termweightevolver/constraints/Probe" "tf" "I" (.int (0 : Int32)) := D67 (Or.inr (hw _ (List.mem_of_getElem? (i := 14) rfl))) (ty := .int) (by decide)
              have F_dl_b67 : Fld Z h67 b67 "com/example/term_weight_evolver/termweightevolver/constraints/Probe" "dl" "I" (.int (0 : Int32)) := D67 (Or.inr (hw _ (List.mem_of_getElem? (i := 16) rfl))) (ty := .int) (by decide)
              refine own_go (fun t k => st67 t k) ?_
              show Go _ _ _ _ _ T67 (mkF m 130 #[.val (.int p1), .val (.long p2), .second, .val (.int p3), .val (.int p4), .val (.int p5), .val (.long p6), .second, .val (.int q8), .val (.long q9), .second, .val (.int q11), .val (.int q12), .val (.int (0 : Int32)), .val (.ref b65), .unset, .unset, .unset, .unset, .unset, .unset, .unset] [(.ref b67)])
              refine own_go (fun t k => XS.dup X67.here hx rfl (hb hby at_130) rfl rfl k) ?_
              show Go _ _ _ _ _ T67 (mkF m 131 #[.val (.int p1), .val (.long p2), .second, .val (.int p3), .val (.int p4), .val (.int p5), .val (.long p6), .second, .val (.int q8), .val (.long q9), .second, .val (.int q11), .val (.int q12), .val (.int (0 : Int32)), .val (.ref b65), .unset, .unset, .unset, .unset, .unset, .unset, .unset] [(.ref b67), (.ref b67)])
              refine own_go (fun t k => XS.iload X67.here hx rfl (hb hby at_131) rfl k) ?_
              show Go _ _ _ _ _ T67 (mkF m 133 #[.val (.int p1), .val (.long p2), .second, .val (.int p3), .val (.int p4), .val (.int p5), .val (.long p6), .second, .val (.int q8), .val (.long q9), .second, .val (.int q11), .val (.int q12), .val (.int (0 : Int32)), .val (.ref b65), .unset, .unset, .unset, .unset, .unset, .unset, .unset] [(.int q8), (.ref b67), (.ref b67)])
              refine own_go (fun t k => XS.lload X67.here hx rfl (hb hby at_133) rfl k) ?_
              show Go _ _ _ _ _ T67 (mkF m 135 #[.val (.int p1), .val (.long p2), .second, .val (.int p3), .val (.int p4), .val (.int p5), .val (.long p6), .second, .val (.int q8), .val (.long q9), .second, .val (.int q11), .val (.int q12), .val (.int (0 : Int32)), .val (.ref b65), .unset, .unset, .unset, .unset, .unset, .unset, .unset] [(.long q9), (.int q8), (.ref b67), (.ref b67)])
              refine own_go (fun t k => XS.iload X67.here hx rfl (hb hby at_135) rfl k) ?_
              show Go _ _ _ _ _ T67 (mkF m 137 #[.val (.int p1), .val (.long p2), .second, .val (.int p3), .val (.int p4), .val (.int p5), .val (.long p6), .second, .val (.int q8), .val (.long q9), .second, .val (.int q11), .val (.int q12), .val (.int (0 : Int32)), .val (.ref b65), .unset, .unset, .unset, .unset, .unset, .unset, .unset] [(.int q11), (.long q9), (.int q8), (.ref b67), (.ref b67)])
              refine own_go (fun t k => XS.iload X67.here hx rfl (hb hby at_137) rfl k) ?_
              show Go _ _ _ _ _ T67 (mkF m 139 #[.val (.int p1), .val (.long p2), .second, .val (.int p3), .val (.int p4), .val (.int p5), .val (.long p6), .second, .val (.int q8), .val (.long q9), .second, .val (.int q11), .val (.int q12), .val (.int (0 : Int32)), .val (.ref b65), .unset, .unset, .unset, .unset, .unset, .unset, .unset] [(.int q12), (.int q11), (.long q9), (.int q8), (.ref b67), (.ref b67)])
              refine own_callI X67 hx hZ (y := (⟨"com/example/term_weight_evolver/termweightevolver/constraints/Probe", "<init>", "(IJII)V"⟩ : MethodName)) rfl hown (hw _ (List.mem_of_getElem? (i := 3) rfl)) (hw _ (List.mem_of_getElem? (i := 4) rfl)) (hw _ (List.mem_of_getElem? (i := 5) rfl)) (hw _ (List.mem_of_getElem? (i := 2) rfl)) (by decide) (rm1 l Z a0 hw [] b67 q8 q9 q11 q12 h67 n0 hn67 A67 g_b67 F_df_b67 F_cf_b67 F_tf_b67 F_dl_b67 ) e67 (b := b67) (by rw [hml]; rfl) (argsL := [(.int q8), (.long q9), (.int q11), (.int q12)]) (rest := [(.ref b67)]) rfl rfl (lenOf own_pd2 rfl) (W := 1) (Nat.le_of_eq rfl) (by decide) (by decide) (hb hby at_139) (by decide) (by decide) ?_
              intro v68 T68 L68 X68 q68
              obtain ⟨rfl, N68q, K68, Ex68, F68_df, F68_cf, F68_tf, F68_dl⟩ := q68
              have N68 := Fr.app N66 N68q
              replace S_high := own_sta_keep S_high K68 (allS ⟨_, A67⟩ all0)
              replace S_cache := own_sta_keep S_cache K68 (allS ⟨_, A67⟩ all0)
              replace F66_df := F66_df.keep K68 (ninS ne_b65_b67 nin0)
              replace F66_cf := F66_cf.keep K68 (ninS ne_b65_b67 nin0)
              replace F66_tf := F66_tf.keep K68 (ninS ne_b65_b67 nin0)
              replace F66_dl := F66_dl.keep K68 (ninS ne_b65_b67 nin0)
              replace Ca := Ca.keep K68 (ninS ne_ca_b67 nin0)
              replace Ex66 := Ex66.keep K68
              replace A67 := A67.keep K68
              have hn68 : n0 ≤ T68.heap.size := Nat.le_trans hn67 K68.1
              show Go _ _ _ _ _ T68 (mkF m 142 #[.val (.int p1), .val (.long p2), .second, .val (.int p3), .val (.int p4), .val (.int p5), .val (.long p6), .second, .val (.int q8), .val (.long q9), .second, .val (.int q11), .val (.int q12), .val (.int (0 : Int32)), .val (.ref b65), .unset, .unset, .unset, .unset, .unset, .unset, .unset] [(.ref b67)])
              refine own_go (fun t k => XS.astore X68.here hx rfl (hb hby at_142) rfl rfl (l' := #[.val (.int p1), .val (.long p2), .second, .val (.int p3), .val (.int p4), .val (.int p5), .val (.long p6), .second, .val (.int q8), .val (.long q9), .second, .val (.int q11), .val (.int q12), .val (.int (0 : Int32)), .val (.ref b65), .val (.ref b67), .unset, .unset, .unset, .unset, .unset, .unset]) rfl k) ?_
              show Go _ _ _ _ _ T68 (mkF m 144 #[.val (.int p1), .val (.long p2), .second, .val (.int p3), .val (.int p4), .val (.int p5), .val (.long p6), .second, .val (.int q8), .val (.long q9), .second, .val (.int q11), .val (.int q12), .val (.int (0 : Int32)), .val (.ref b65), .val (.ref b67), .unset, .unset, .unset, .unset, .unset, .unset] [])
              refine own_go (fun t k => XS.iloadN X68.here hx rfl (hb hby at_144) rfl k) ?_
              show Go _ _ _ _ _ T68 (mkF m 145 #[.val (.int p1), .val (.long p2), .second, .val (.int p3), .val (.int p4), .val (.int p5), .val (.long p6), .second, .val (.int q8), .val (.long q9), .second, .val (.int q11), .val (.int q12), .val (.int (0 : Int32)), .val (.ref b65), .val (.ref b67), .unset, .unset, .unset, .unset, .unset, .unset] [(.int p1)])
              refine own_callS X68 hx hZ (y := (⟨"java/lang/Integer", "valueOf", "(I)Ljava/lang/Integer;"⟩ : MethodName)) hown (hw _ (List.mem_of_getElem? (i := 17) rfl)) (hw _ (List.mem_of_getElem? (i := 18) rfl)) (hw _ (List.mem_of_getElem? (i := 19) rfl)) (hw _ (List.mem_of_getElem? (i := 20) rfl)) (by decide) (rm3 l Z a0 hw [] p1 ca T68.heap n0 hn68 S_high S_cache Ca) rfl (by rw [hml]; rfl) (argsL := [(.int p1)]) (rest := []) rfl rfl (lenOf own_pd3 rfl) (W := 0) (Nat.le_of_eq rfl) (by decide) (by decide) (hb hby at_145) (by decide) (by decide) ?_
              intro v69 T69 L69 X69 q69
              obtain ⟨b69, rfl, N69q, K69, Ex69⟩ := q69
              have N69 := Fr.app N68 N69q
              replace S_high := own_sta_keep S_high K69 all0
              replace S_cache := own_sta_keep S_cache K69 all0
              replace F66_df := F66_df.keep K69 nin0
              replace F66_cf := F66_cf.keep K69 nin0
              replace F66_tf := F66_tf.keep K69 nin0
              replace F66_dl := F66_dl.keep K69 nin0
              replace F68_df := F68_df.keep K69 nin0
              replace F68_cf := F68_cf.keep K69 nin0
              replace F68_tf := F68_tf.keep K69 nin0
              replace F68_dl := F68_dl.keep K69 nin0
              replace Ca := Ca.keep K69 nin0
              replace Ex66 := Ex66.keep K69
              replace Ex68 := Ex68.keep K69
              have hn69 : n0 ≤ T69.heap.size := Nat.le_trans hn68 K69.1
              show Go _ _ _ _ _ T69 (mkF m 148 #[.val (.int p1), .val (.long p2), .second, .val (.int p3), .val (.int p4), .val (.int p5), .val (.long p6), .second, .val (.int q8), .val (.long q9), .second, .val (.int q11), .val (.int q12), .val (.int (0 : Int32)), .val (.ref b65), .val (.ref b67), .unset, .unset, .unset, .unset, .unset, .unset] [(.ref b69)])
              refine own_go (fun t k => XS.astore X69.here hx rfl (hb hby at_148) rfl rfl (l' := #[.val (.int p1), .val (.long p2), .second, .val (.int p3), .val (.int p4), .val (.int p5), .val (.long p6), .second, .val (.int q8), .val (.long q9), .second, .val (.int q11), .val (.int q12), .val (.int (0 : Int32)), .val (.ref b65), .val (.ref b67), .val (.ref b69), .unset, .unset, .unset, .unset, .unset]) rfl k) ?_
              show Go _ _ _ _ _ T69 (mkF m 150 #[.val (.int p1), .val (.long p2), .second, .val (.int p3), .val (.int p4), .val (.int p5), .val (.long p6), .second, .val (.int q8), .val (.long q9), .second, .val (.int q11), .val (.int q12), .val (.int (0 : Int32)), .val (.ref b65), .val (.ref b67), .val (.ref b69), .unset, .unset, .unset, .unset, .unset] [])
              refine own_go (fun t k => XS.aload X69.here hx rfl (hb hby at_150) rfl rfl k) ?_
              show Go _ _ _ _ _ T69 (mkF m 152 #[.val (.int p1), .val (.long p2), .second, .val (.int p3), .val (.int p4), .val (.int p5), .val (.long p6), .second, .val (.int q8), .val (.long q9), .second, .val (.int q11), .val (.int q12), .val (.int (0 : Int32)), .val (.ref b65), .val (.ref b67), .val (.ref b69), .unset, .unset, .unset, .unset, .unset] [(.ref b65)])
              refine own_go (fun t k => XS.aload X69.here hx rfl (hb hby at_152) rfl rfl k) ?_
              show Go _ _ _ _ _ T69 (mkF m 154 #[.val (.int p1), .val (.long p2), .second, .val (.int p3), .val (.int p4), .val (.int p5), .val (.long p6), .second, .val (.int q8), .val (.long q9), .second, .val (.int q11), .val (.int q12), .val (.int (0 : Int32)), .val (.ref b65), .val (.ref b67), .val (.ref b69), .unset, .unset, .unset, .unset, .unset] [(.ref b67), (.ref b65)])
              refine own_callV X69 hx hZ (y := (⟨"com/example/term_weight_evolver/termweightevolver/constraints/Probe", "equals", "(Ljava/lang/Object;)Z"⟩ : MethodName)) hown (hw _ (List.mem_of_getElem? (i := 24) rfl)) (hw _ (List.mem_of_getElem? (i := 25) rfl)) (hw _ (List.mem_of_getElem? (i := 27) rfl)) (hw _ (List.mem_of_getElem? (i := 26) rfl)) (hw _ (List.mem_of_getElem? (i := 28) rfl)) (hw _ (List.mem_of_getElem? (i := 2) rfl)) (by decide) (rm_eq_same l Z a0 hw [] b65 b67 p1 p2 p3 p4 q8 q9 q11 q12 (0 : Int32) T69.heap n0 hn69 Ex68 F66_df F66_cf F66_tf F66_dl F68_df F68_cf F68_tf F68_dl (by rw [own_f_rm_eq_same, if_pos (hc53).symm, if_neg hsym]; try first | rfl | decide)) rfl Ex66 (by rw [hml]; rfl) (argsL := [(.ref b67)]) (rest := []) rfl rfl (lenOf own_pd4 rfl) (W := 0) (Nat.le_of_eq rfl) (by decide) (by decide) (hb hby at_154) (by decide) (by decide) ?_
              intro v70 T70 L70 X70 q70
              obtain ⟨rfl, N70q, e70⟩ := q70
              have N70 := Fr.app N69 N70q
              show Go _ _ _ _ _ T70 (mkF m 157 #[.val (.int p1), .val (.long p2), .second, .val (.int p3), .val (.int p4), .val (.int p5), .val (.long p6), .second, .val (.int q8), .val (.long q9), .second, .val (.int q11), .val (.int q12), .val (.int (0 : Int32)), .val (.ref b65), .val (.ref b67), .val (.ref b69), .unset, .unset, .unset, .unset, .unset] [(.int (0 : Int32))])
              refine own_go (fun t k => XS.istore X70.here hx rfl (hb hby at_157) rfl (l' := #[.val (.int p1), .val (.long p2), .second, .val (.int p3), .val (.int p4), .val (.int p5), .val (.long p6), .second, .val (.int q8), .val (.long q9), .second, .val (.int q11), .val (.int q12), .val (.int (0 : Int32)), .val (.ref b65), .val (.ref b67), .val (.ref b69), .val (.int (0 : Int32)), .unset, .unset, .unset, .unset]) rfl k) ?_
              show Go _ _ _ _ _ T70 (mkF m 159 #[.val (.int p1), .val (.long p2), .second, .val (.int p3), .val (.int p4), .val (.int p5), .val (.long p6), .second, .val (.int q8), .val (.long q9), .second, .val (.int q11), .val (.int q12), .val (.int (0 : Int32)), .val (.ref b65), .val (.ref b67), .val (.ref b69), .val (.int (0 : Int32)), .unset, .unset, .unset, .unset] [])
              refine own_go (fun t k => XS.aload X70.here hx rfl (hb hby at_159) rfl rfl k) ?_
              show Go _ _ _ _ _ T70 (mkF m 161 #[.val (.int p1), .val (.long p2), .second, .val (.int p3), .val (.int p4), .val (.int p5), .val (.long p6), .second, .val (.int q8), .val (.long q9), .second, .val (.int q11), .val (.int q12), .val (.int (0 : Int32)), .val (.ref b65), .val (.ref b67), .val (.ref b69), .val (.int (0 : Int32)), .unset, .unset, .unset, .unset] [(.ref b67)])
              refine own_go (fun t k => XS.aload X70.here hx rfl (hb hby at_161) rfl rfl k) ?_
              show Go _ _ _ _ _ T70 (mkF m 163 #[.val (.int p1), .val (.long p2), .second, .val (.int p3), .val (.int p4), .val (.int p5), .val (.long p6), .second, .val (.int q8), .val (.long q9), .second, .val (.int q11), .val (.int q12), .val (.int (0 : Int32)), .val (.ref b65), .val (.ref b67), .val (.ref b69), .val (.int (0 : Int32)), .unset, .unset, .unset, .unset] [(.ref b65), (.ref b67)])
              refine own_callV X70 hx hZ (y := (⟨"com/example/term_weight_evolver/termweightevolver/constraints/Probe", "equals", "(Ljava/lang/Object;)Z"⟩ : MethodName)) hown (hw _ (List.mem_of_getElem? (i := 24) rfl)) (hw _ (List.mem_of_getElem? (i := 25) rfl)) (hw _ (List.mem_of_getElem? (i := 27) rfl)) (hw _ (List.mem_of_getElem? (i := 26) rfl)) (hw _ (List.mem_of_getElem? (i := 28) rfl)) (hw _ (List.mem_of_getElem? (i := 2) rfl)) (by decide) (rm_eq_same l Z a0 hw [] b67 b65 q8 q9 q11 q12 p1 p2 p3 p4 (0 : Int32) T69.heap n0 hn69 Ex66 F68_df F68_cf F68_tf F68_dl F66_df F66_cf F66_tf F66_dl (by rw [own_f_rm_eq_same, if_pos hc53, if_neg hc64]; try first | rfl | decide)) e70 Ex68 (by rw [hml]; rfl) (argsL := [(.ref b65)]) (rest := []) rfl rfl (lenOf own_pd4 rfl) (W := 0) (Nat.le_of_eq rfl) (by decide) (by decide) (hb hby at_163) (by decide) (by decide) ?_
              intro v71 T71 L71 X71 q71
              obtain ⟨rfl, N71q, e71⟩ := q71
              have N71 := Fr.app N70 N71q
              show Go _ _ _ _ _ T71 (mkF m 166 #[.val (.int p1), .val (.long p2), .second, .val (.int p3), .val (.int p4), .val (.int p5), .val (.long p6), .second, .val (.int q8), .val (.long q9), .second, .val (.int q11), .val (.int q12), .val (.int (0 : Int32)), .val (.ref b65), .val (.ref b67), .val (.ref b69), .val (.int (0 : Int32)), .unset, .unset, .unset, .unset] [(.int (0 : Int32))])
              refine own_go (fun t k => XS.istore X71.here hx rfl (hb hby at_166) rfl (l' := #[.val (.int p1), .val (.long p2), .second, .val (.int p3), .val (.int p4), .val (.int p5), .val (.long p6), .second, .val (.int q8), .val (.long q9), .second, .val (.int q11), .val (.int q12), .val (.int (0 : Int32)), .val (.ref b65), .val (.ref b67), .val (.ref b69), .val (.int (0 : Int32)), .val (.int (0 : Int32)), .unset, .unset, .unset]) rfl k) ?_
              show Go _ _ _ _ _ T71 (mkF m 168 #[.val (.int p1), .val (.long p2), .second, .val (.int p3), .val (.int p4), .val (.int p5), .val (.long p6), .second, .val (.int q8), .val (.long q9), .second, .val (.int q11), .val (.int q12), .val (.int (0 : Int32)), .val (.ref b65), .val (.ref b67), .val (.ref b69), .val (.int (0 : Int32)), .val (.int (0 : Int32)), .unset, .unset, .unset] [])
              refine own_go (fun t k => XS.aload X71.here hx rfl (hb hby at_168) rfl rfl k) ?_
              show Go _ _ _ _ _ T71 (mkF m 170 #[.val (.int p1), .val (.long p2), .second, .val (.int p3), .val (.int p4), .val (.int p5), .val (.long p6), .second, .val (.int q8), .val (.long q9), .second, .val (.int q11), .val (.int q12), .val (.int (0 : Int32)), .val (.ref b65), .val (.ref b67), .val (.ref b69), .val (.int (0 : Int32)), .val (.int (0 : Int32)), .unset, .unset, .unset] [(.ref b65)])
              refine own_go (fun t k => XS.aload X71.here hx rfl (hb hby at_170) rfl rfl k) ?_
              show Go _ _ _ _ _ T71 (mkF m 172 #[.val (.int p1), .val (.long p2), .second, .val (.int p3), .val (.int p4), .val (.int p5), .val (.long p6), .second, .val (.int q8), .val (.long q9), .second, .val (.int q11), .val (.int q12), .val (.int (0 : Int32)), .val (.ref b65), .val (.ref b67), .val (.ref b69), .val (.int (0 : Int32)), .val (.int (0 : Int32)), .unset, .unset, .unset] [(.ref b65), (.ref b65)])
              refine own_callV X71 hx hZ (y := (⟨"com/example/term_weight_evolver/termweightevolver/constraints/Probe", "equals", "(Ljava/lang/Object;)Z"⟩ : MethodName)) hown (hw _ (List.mem_of_getElem? (i := 24) rfl)) (hw _ (List.mem_of_getElem? (i := 25) rfl)) (hw _ (List.mem_of_getElem? (i := 27) rfl)) (hw _ (List.mem_of_getElem? (i := 26) rfl)) (hw _ (List.mem_of_getElem? (i := 28) rfl)) (hw _ (List.mem_of_getElem? (i := 2) rfl)) (by decide) (rm_eq_same l Z a0 hw [] b65 b65 p1 p2 p3 p4 p1 p2 p3 p4 (1 : Int32) T69.heap n0 hn69 Ex66 F66_df F66_cf F66_tf F66_dl F66_df F66_cf F66_tf F66_dl (by rw [own_f_rm_eq_same, if_pos (show p1 = p1 from rfl), if_pos hself, if_pos (show p3 = p3 from rfl), if_pos (show p4 = p4 from rfl)]; try first | rfl | decide)) e71 Ex66 (by rw [hml]; rfl) (argsL := [(.ref b65)]) (rest := []) rfl rfl (lenOf own_pd4 rfl) (W := 0) (Nat.le_of_eq rfl) (by decide) (by decide) (hb hby at_172) (by decide) (by decide) ?_
              intro v72 T72 L72 X72 q72
              obtain ⟨rfl, N72q, e72⟩ := q72
              have N72 := Fr.app N71 N72q
              show Go _ _ _ _ _ T72 (mkF m 175 #[.val (.int p1), .val (.long p2), .second, .val (.int p3), .val (.int p4), .val (.int p5), .val (.long p6), .second, .val (.int q8), .val (.long q9), .second, .val (.int q11), .val (.int q12), .val (.int (0 : Int32)), .val (.ref b65), .val (.ref b67), .val (.ref b69), .val (.int (0 : Int32)), .val (.int (0 : Int32)), .unset, .unset, .unset] [(.int (1 : Int32))])
              refine own_go (fun t k => XS.istore X72.here hx rfl (hb hby at_175) rfl (l' := #[.val (.int p1), .val (.long p2), .second, .val (.int p3), .val (.int p4), .val (.int p5), .val (.long p6), .second, .val (.int q8), .val (.long q9), .second, .val (.int q11), .val (.int q12), .val (.int (0 : Int32)), .val (.ref b65), .val (.ref b67), .val (.ref b69), .val (.int (0 : Int32)), .val (.int (0 : Int32)), .val (.int (1 : Int32)), .unset, .unset]) rfl k) ?_
              show Go _ _ _ _ _ T72 (mkF m 177 #[.val (.int p1), .val (.long p2), .second, .val (.int p3), .val (.int p4), .val (.int p5), .val (.long p6), .second, .val (.int q8), .val (.long q9), .second, .val (.int q11), .val (.int q12), .val (.int (0 : Int32)), .val (.ref b65), .val (.ref b67), .val (.ref b69), .val (.int (0 : Int32)), .val (.int (0 : Int32)), .val (.int (1 : Int32)), .unset, .unset] [])
              refine own_go (fun t k => XS.aload X72.here hx rfl (hb hby at_177) rfl rfl k) ?_
              show Go _ _ _ _ _ T72 (mkF m 179 #[.val (.int p1), .val (.long p2), .second, .val (.int p3), .val (.int p4), .val (.int p5), .val (.long p6), .second, .val (.int q8), .val (.long q9), .second, .val (.int q11), .val (.int q12), .val (.int (0 : Int32)), .val (.ref b65), .val (.ref b67), .val (.ref b69), .val (.int (0 : Int32)), .val (.int (0 : Int32)), .val (.int (1 : Int32)), .unset, .unset] [(.ref b65)])
              refine own_go (fun t k => XS.aconstNull X72.here hx rfl (hb hby at_179) k) ?_
              show Go _ _ _ _ _ T72 (mkF m 180 #[.val (.int p1), .val (.long p2), .second, .val (.int p3), .val (.int p4), .val (.int p5), .val (.long p6), .second, .val (.int q8), .val (.long q9), .second, .val (.int q11), .val (.int q12), .val (.int (0 : Int32)), .val (.ref b65), .val (.ref b67), .val (.ref b69), .val (.int (0 : Int32)), .val (.int (0 : Int32)), .val (.int (1 : Int32)), .unset, .unset] [.null, (.ref b65)])
              refine own_callV X72 hx hZ (y := (⟨"com/example/term_weight_evolver/termweightevolver/constraints/Probe", "equals", "(Ljava/lang/Object;)Z"⟩ : MethodName)) hown (hw _ (List.mem_of_getElem? (i := 24) rfl)) (hw _ (List.mem_of_getElem? (i := 25) rfl)) (hw _ (List.mem_of_getElem? (i := 27) rfl)) (hw _ (List.mem_of_getElem? (i := 26) rfl)) (hw _ (List.mem_of_getElem? (i := 28) rfl)) (hw _ (List.mem_of_getElem? (i := 2) rfl)) (by decide) (rm_eq_null l Z a0 hw [] b65 (0 : Int32) T69.heap n0 hn69  (by rw [own_f_rm_eq_null]; try first | rfl | decide)) e72 Ex66 (by rw [hml]; rfl) (argsL := [.null]) (rest := []) rfl rfl (lenOf own_pd4 rfl) (W := 0) (Nat.le_of_eq rfl) (by decide) (by decide) (hb hby at_180) (by decide) (by decide) ?_
              intro v73 T73 L73 X73 q73
              obtain ⟨rfl, N73q, e73⟩ := q73
              have N73 := Fr.app N72 N73q
              show Go _ _ _ _ _ T73 (mkF m 183 #[.val (.int p1), .val (.long p2), .second, .val (.int p3), .val (.int p4), .val (.int p5), .val (.long p6), .second, .val (.int q8), .val (.long q9), .second, .val (.int q11), .val (.int q12), .val (.int (0 : Int32)), .val (.ref b65), .val (.ref b67), .val (.ref b69), .val (.int (0 : Int32)), .val (.int (0 : Int32)), .val (.int (1 : Int32)), .unset, .unset] [(.int (0 : Int32))])
              refine own_go (fun t k => XS.istore X73.here hx rfl (hb hby at_183) rfl (l' := #[.val (.int p1), .val (.long p2), .second, .val (.int p3), .val (.int p4), .val (.int p5), .val (.long p6), .second, .val (.int q8), .val (.long q9), .second, .val (.int q11), .val (.int q12), .val (.int (0 : Int32)), .val (.ref b65), .val (.ref b67), .val (.ref b69), .val (.int (0 : Int32)), .val (.int (0 : Int32)), .val (.int (1 : Int32)), .val (.int (0 : Int32)), .unset]) rfl k) ?_
              show Go _ _ _ _ _ T73 (mkF m 185 #[.val (.int p1), .val (.long p2), .second, .val (.int p3), .val (.int p4), .val (.int p5), .val (.long p6), .second, .val (.int q8), .val (.long q9), .second, .val (.int q11), .val (.int q12), .val (.int (0 : Int32)), .val (.ref b65), .val (.ref b67), .val (.ref b69), .val (.int (0 : Int32)), .val (.int (0 : Int32)), .val (.int (1 : Int32)), .val (.int (0 : Int32)), .unset] [])
              refine own_go (fun t k => XS.aload X73.here hx rfl (hb hby at_185) rfl rfl k) ?_
              show Go _ _ _ _ _ T73 (mkF m 187 #[.val (.int p1), .val (.long p2), .second, .val (.int p3), .val (.int p4), .val (.int p5), .val (.long p6), .second, .val (.int q8), .val (.long q9), .second, .val (.int q11), .val (.int q12), .val (.int (0 : Int32)), .val (.ref b65), .val (.ref b67), .val (.ref b69), .val (.int (0 : Int32)), .val (.int (0 : Int32)), .val (.int (1 : Int32)), .val (.int (0 : Int32)), .unset] [(.ref b65)])
              refine own_go (fun t k => XS.aload X73.here hx rfl (hb hby at_187) rfl rfl k) ?_
              show Go _ _ _ _ _ T73 (mkF m 189 #[.val (.int p1), .val (.long p2), .second, .val (.int p3), .val (.int p4), .val (.int p5), .val (.long p6), .second, .val (.int q8), .val (.long q9), .second, .val (.int q11), .val (.int q12), .val (.int (0 : Int32)), .val (.ref b65), .val (.ref b67), .val (.ref b69), .val (.int (0 : Int32)), .val (.int (0 : Int32)), .val (.int (1 : Int32)), .val (.int (0 : Int32)), .unset] [(.ref b69), (.ref b65)])
              refine own_callV X73 hx hZ (y := (⟨"com/example/term_weight_evolver/termweightevolver/constraints/Probe", "equals", "(Ljava/lang/Object;)Z"⟩ : MethodName)) hown (hw _ (List.mem_of_getElem? (i := 24) rfl)) (hw _ (List.mem_of_getElem? (i := 25) rfl)) (hw _ (List.mem_of_getElem? (i := 27) rfl)) (hw _ (List.mem_of_getElem? (i := 26) rfl)) (hw _ (List.mem_of_getElem? (i := 28) rfl)) (hw _ (List.mem_of_getElem? (i := 2) rfl)) (by decide) (rm_eq_other l Z a0 hw [] b65 b69 (0 : Int32) T69.heap n0 hn69 Ex69 (by rw [own_f_rm_eq_other]; try first | rfl | decide)) e73 Ex66 (by rw [hml]; rfl) (argsL := [(.ref b69)]) (rest := []) rfl rfl (lenOf own_pd4 rfl) (W := 0) (Nat.le_of_eq rfl) (by decide) (by decide) (hb hby at_189) (by decide) (by decide) ?_
              intro v74 T74 L74 X74 q74
              obtain ⟨rfl, N74q, e74⟩ := q74
              have N74 := Fr.app N73 N74q
              show Go _ _ _ _ _ T74 (mkF m 192 #[.val (.int p1), .val (.long p2), .second, .val (.int p3), .val (.int p4), .val (.int p5), .val (.long p6), .second, .val (.int q8), .val (.long q9), .second, .val (.int q11), .val (.int q12), .val (.int (0 : Int32)), .val (.ref b65), .val (.ref b67), .val (.ref b69), .val (.int (0 : Int32)), .val (.int (0 : Int32)), .val (.int (1 : Int32)), .val (.int (0 : Int32)), .unset] [(.int (0 : Int32))])
              refine own_go (fun t k => XS.istore X74.here hx rfl (hb hby at_192) rfl (l' := #[.val (.int p1), .val (.long p2), .second, .val (.int p3), .val (.int p4), .val (.int p5), .val (.long p6), .second, .val (.int q8), .val (.long q9), .second, .val (.int q11), .val (.int q12), .val (.int (0 : Int32)), .val (.ref b65), .val (.ref b67), .val (.ref b69), .val (.int (0 : Int32)), .val (.int (0 : Int32)), .val (.int (1 : Int32)), .val (.int (0 : Int32)), .val (.int (0 : Int32))]) rfl k) ?_
              show Go _ _ _ _ _ T74 (mkF m 194 #[.val (.int p1), .val (.long p2), .second, .val (.int p3), .val (.int p4), .val (.int p5), .val (.long p6), .second, .val (.int q8), .val (.long q9), .second, .val (.int q11), .val (.int q12), .val (.int (0 : Int32)), .val (.ref b65), .val (.ref b67), .val (.ref b69), .val (.int (0 : Int32)), .val (.int (0 : Int32)), .val (.int (1 : Int32)), .val (.int (0 : Int32)), .val (.int (0 : Int32))] [])
              refine own_go (fun t k => XS.iload X74.here hx rfl (hb hby at_194) rfl k) ?_
              show Go _ _ _ _ _ T74 (mkF m 196 #[.val (.int p1), .val (.long p2), .second, .val (.int p3), .val (.int p4), .val (.int p5), .val (.long p6), .second, .val (.int q8), .val (.long q9), .second, .val (.int q11), .val (.int q12), .val (.int (0 : Int32)), .val (.ref b65), .val (.ref b67), .val (.ref b69), .val (.int (0 : Int32)), .val (.int (0 : Int32)), .val (.int (1 : Int32)), .val (.int (0 : Int32)), .val (.int (0 : Int32))] [(.int (0 : Int32))])
              refine own_go (fun t k => XS.iload X74.here hx rfl (hb hby at_196) rfl k) ?_
              show Go _ _ _ _ _ T74 (mkF m 198 #[.val (.int p1), .val (.long p2), .second, .val (.int p3), .val (.int p4), .val (.int p5), .val (.long p6), .second, .val (.int q8), .val (.long q9), .second, .val (.int q11), .val (.int q12), .val (.int (0 : Int32)), .val (.ref b65), .val (.ref b67), .val (.ref b69), .val (.int (0 : Int32)), .val (.int (0 : Int32)), .val (.int (1 : Int32)), .val (.int (0 : Int32)), .val (.int (0 : Int32))] [(.int (0 : Int32)), (.int (0 : Int32))])
              refine own_go (fun t k => XS.icmpNo X74.here hx rfl (hb hby at_198) rfl (by decide) k) ?_
              show Go _ _ _ _ _ T74 (mkF m 201 #[.val (.int p1), .val (.long p2), .second, .val (.int p3), .val (.int p4), .val (.int p5), .val (.long p6), .second, .val (.int q8), .val (.long q9), .second, .val (.int q11), .val (.int q12), .val (.int (0 : Int32)), .val (.ref b65), .val (.ref b67), .val (.ref b69), .val (.int (0 : Int32)), .val (.int (0 : Int32)), .val (.int (1 : Int32)), .val (.int (0 : Int32)), .val (.int (0 : Int32))] [])
              refine own_go (fun t k => XS.iload X74.here hx rfl (hb hby at_201) rfl k) ?_
              show Go _ _ _ _ _ T74 (mkF m 203 #[.val (.int p1), .val (.long p2), .second, .val (.int p3), .val (.int p4), .val (.int p5), .val (.long p6), .second, .val (.int q8), .val (.long q9), .second, .val (.int q11), .val (.int q12), .val (.int (0 : Int32)), .val (.ref b65), .val (.ref b67), .val (.ref b69), .val (.int (0 : Int32)), .val (.int (0 : Int32)), .val (.int (1 : Int32)), .val (.int (0 : Int32)), .val (.int (0 : Int32))] [(.int (0 : Int32))])
              refine own_go (fun t k => XS.iload X74.here hx rfl (hb hby at_203) rfl k) ?_
              show Go _ _ _ _ _ T74 (mkF m 205 #[.val (.int p1), .val (.long p2), .second, .val (.int p3), .val (.int p4), .val (.int p5), .val (.long p6), .second, .val (.int q8), .val (.long q9), .second, .val (.int q11), .val (.int q12), .val (.int (0 : Int32)), .val (.ref b65), .val (.ref b67), .val (.ref b69), .val (.int (0 : Int32)), .val (.int (0 : Int32)), .val (.int (1 : Int32)), .val (.int (0 : Int32)), .val (.int (0 : Int32))] [(.int (0 : Int32)), (.int (0 : Int32))])
              refine own_go (fun t k => XS.icmpNo X74.here hx rfl (hb hby at_205) rfl (by decide) k) ?_
              show Go _ _ _ _ _ T74 (mkF m 208 #[.val (.int p1), .val (.long p2), .second, .val (.int p3), .val (.int p4), .val (.int p5), .val (.long p6), .second, .val (.int q8), .val (.long q9), .second, .val (.int q11), .val (.int q12), .val (.int (0 : Int32)), .val (.ref b65), .val (.ref b67), .val (.ref b69), .val (.int (0 : Int32)), .val (.int (0 : Int32)), .val (.int (1 : Int32)), .val (.int (0 : Int32)), .val (.int (0 : Int32))] [])
              refine own_go (fun t k => XS.iload X74.here hx rfl (hb hby at_208) rfl k) ?_
              show Go _ _ _ _ _ T74 (mkF m 210 #[.val (.int p1), .val (.long p2), .second, .val (.int p3), .val (.int p4), .val (.int p5), .val (.long p6), .second, .val (.int q8), .val (.long q9), .second, .val (.int q11), .val (.int q12), .val (.int (0 : Int32)), .val (.ref b65), .val (.ref b67), .val (.ref b69), .val (.int (0 : Int32)), .val (.int (0 : Int32)), .val (.int (1 : Int32)), .val (.int (0 : Int32)), .val (.int (0 : Int32))] [(.int (1 : Int32))])
              refine own_go (fun t k => XS.ifNo X74.here hx rfl (hb hby at_210) rfl (by decide) k) ?_
              show Go _ _ _ _ _ T74 (mkF m 213 #[.val (.int p1), .val (.long p2), .second, .val (.int p3), .val (.int p4), .val (.int p5), .val (.long p6), .second, .val (.int q8), .val (.long q9), .second, .val (.int q11), .val (.int q12), .val (.int (0 : Int32)), .val (.ref b65), .val (.ref b67), .val (.ref b69), .val (.int (0 : Int32)), .val (.int (0 : Int32)), .val (.int (1 : Int32)), .val (.int (0 : Int32)), .val (.int (0 : Int32))] [])
              refine own_go (fun t k => XS.iload X74.here hx rfl (hb hby at_213) rfl k) ?_
              show Go _ _ _ _ _ T74 (mkF m 215 #[.val (.int p1), .val (.long p2), .second, .val (.int p3), .val (.int p4), .val (.int p5), .val (.long p6), .second, .val (.int q8), .val (.long q9), .second, .val (.int q11), .val (.int q12), .val (.int (0 : Int32)), .val (.ref b65), .val (.ref b67), .val (.ref b69), .val (.int (0 : Int32)), .val (.int (0 : Int32)), .val (.int (1 : Int32)), .val (.int (0 : Int32)), .val (.int (0 : Int32))] [(.int (0 : Int32))])
              refine own_go (fun t k => XS.ifNo X74.here hx rfl (hb hby at_215) rfl (by decide) k) ?_
              show Go _ _ _ _ _ T74 (mkF m 218 #[.val (.int p1), .val (.long p2), .second, .val (.int p3), .val (.int p4), .val (.int p5), .val (.long p6), .second, .val (.int q8), .val (.long q9), .second, .val (.int q11), .val (.int q12), .val (.int (0 : Int32)), .val (.ref b65), .val (.ref b67), .val (.ref b69), .val (.int (0 : Int32)), .val (.int (0 : Int32)), .val (.int (1 : Int32)), .val (.int (0 : Int32)), .val (.int (0 : Int32))] [])
              refine own_go (fun t k => XS.iload X74.here hx rfl (hb hby at_218) rfl k) ?_
              show Go _ _ _ _ _ T74 (mkF m 220 #[.val (.int p1), .val (.long p2), .second, .val (.int p3), .val (.int p4), .val (.int p5), .val (.long p6), .second, .val (.int q8), .val (.long q9), .second, .val (.int q11), .val (.int q12), .val (.int (0 : Int32)), .val (.ref b65), .val (.ref b67), .val (.ref b69), .val (.int (0 : Int32)), .val (.int (0 : Int32)), .val (.int (1 : Int32)), .val (.int (0 : Int32)), .val (.int (0 : Int32))] [(.int (0 : Int32))])
              refine own_go (fun t k => XS.ifNo X74.here hx rfl (hb hby at_220) rfl (by decide) k) ?_
              show Go _ _ _ _ _ T74 (mkF m 223 #[.val (.int p1), .val (.long p2), .second, .val (.int p3), .val (.int p4), .val (.int p5), .val (.long p6), .second, .val (.int q8), .val (.long q9), .second, .val (.int q11), .val (.int q12), .val (.int (0 : Int32)), .val (.ref b65), .val (.ref b67), .val (.ref b69), .val (.int (0 : Int32)), .val (.int (0 : Int32)), .val (.int (1 : Int32)), .val (.int (0 : Int32)), .val (.int (0 : Int32))] [])
              refine own_go (fun t k => XS.iconst X74.here hx rfl (hb hby at_223) k) ?_
              show Go _ _ _ _ _ T74 (mkF m 224 #[.val (.int p1), .val (.long p2), .second, .val (.int p3), .val (.int p4), .val (.int p5), .val (.long p6), .second, .val (.int q8), .val (.long q9), .second, .val (.int q11), .val (.int q12), .val (.int (0 : Int32)), .val (.ref b65), .val (.ref b67), .val (.ref b69), .val (.int (0 : Int32)), .val (.int (0 : Int32)), .val (.int (1 : Int32)), .val (.int (0 : Int32)), .val (.int (0 : Int32))] [(.int (1 : Int32))])
              refine own_go (fun t k => XS.goto X74.here hx rfl (pc0 := 224) (pc' := 228) rfl (hb hby at_224) (by decide) (by decide) k) ?_
              show Go _ _ _ _ _ T74 (mkF m 228 #[.val (.int p1), .val (.long p2), .second, .val (.int p3), .val (.int p4), .val (.int p5), .val (.long p6), .second, .val (.int q8), .val (.long q9), .second, .val (.int q11), .val (.int q12), .val (.int (0 : Int32)), .val (.ref b65), .val (.ref b67), .val (.ref b69), .val (.int (0 : Int32)), .val (.int (0 : Int32)), .val (.int (1 : Int32)), .val (.int (0 : Int32)), .val (.int (0 : Int32))] [(.int (1 : Int32))])
              refine own_retN X74 hx (own_lvN X74 hlk (by decide) (by decide)) (t := .boolean) hret (by simp) (hb hby at_228) ?_
              exact ⟨rfl, N74⟩
            · skip
              show Go _ _ _ _ _ s₁ (mkF m 93 #[.val (.int p1), .val (.long p2), .second, .val (.int p3), .val (.int p4), .val (.int p5), .val (.long p6), .second, .val (.int q8), .val (.long q9), .second, .val (.int q11), .val (.int q12), .unset, .unset, .unset, .unset, .unset, .unset, .unset, .unset, .unset] [])
              refine own_go (fun t k => XS.iload X0.here hx rfl (hb hby at_93) rfl k) ?_
              show Go _ _ _ _ _ s₁ (mkF m 95 #[.val (.int p1), .val (.long p2), .second, .val (.int p3), .val (.int p4), .val (.int p5), .val (.long p6), .second, .val (.int q8), .val (.long q9), .second, .val (.int q11), .val (.int q12), .unset, .unset, .unset, .unset, .unset, .unset, .unset, .unset, .unset] [(.int q11)])
              refine own_go (fun t k => XS.iloadN X0.here hx rfl (hb hby at_95) rfl k) ?_
              show Go _ _ _ _ _ s₁ (mkF m 96 #[.val (.int p1), .val (.long p2), .second, .val (.int p3), .val (.int p4), .val (.int p5), .val (.long p6), .second, .val (.int q8), .val (.long q9), .second, .val (.int q11), .val (.int q12), .unset, .unset, .unset, .unset, .unset, .unset, .unset, .unset, .unset] [(.int p3), (.int q11)])
              refine own_icmpM (q11 = p3) X0 hx (hb hby at_96) (own_ne _ _) (by decide) (by decide) (pc' := 110) (fun hc75 => ?_) (fun hc75 => ?_)
              · skip
                show Go _ _ _ _ _ s₁ (mkF m 110 #[.val (.int p1), .val (.long p2), .second, .val (.int p3), .val (.int p4), .val (.int p5), .val (.long p6), .second, .val (.int q8), .val (.long q9), .second, .val (.int q11), .val (.int q12), .unset, .unset, .unset, .unset, .unset, .unset, .unset, .unset, .unset] [])
                refine own_go (fun t k => XS.iconst X0.here hx rfl (hb hby at_110) k) ?_
                show Go _ _ _ _ _ s₁ (mkF m 111 #[.val (.int p1), .val (.long p2), .second, .val (.int p3), .val (.int p4), .val (.int p5), .val (.long p6), .second, .val (.int q8), .val (.long q9), .second, .val (.int q11), .val (.int q12), .unset, .unset, .unset, .unset, .unset, .unset, .unset, .unset, .unset] [(.int (0 : Int32))])
                refine own_go (fun t k => XS.istore X0.here hx rfl (hb hby at_111) rfl (l' := #[.val (.int p1), .val (.long p2), .second, .val (.int p3), .val (.int p4), .val (.int p5), .val (.long p6), .second, .val (.int q8), .val (.long q9), .second, .val (.int q11), .val (.int q12), .val (.int (0 : Int32)), .unset, .unset, .unset, .unset, .unset, .unset, .unset, .unset]) rfl k) ?_
                have hsym : ((lcmpW p2 q9) = (0 : Int32)) := (lw_eq p2 q9).mpr ((lw_eq q9 p2).mp hc64).symm
                have hself : (lcmpW p2 p2) = (0 : Int32) := (lw_eq p2 p2).mpr rfl
                show Go _ _ _ _ _ s₁ (mkF m 113 #[.val (.int p1), .val (.long p2), .second, .val (.int p3), .val (.int p4), .val (.int p5), .val (.long p6), .second, .val (.int q8), .val (.long q9), .second, .val (.int q11), .val (.int q12), .val (.int (0 : Int32)), .unset, .unset, .unset, .unset, .unset, .unset, .unset, .unset] [])
                obtain ⟨T76, h76, X76, e76, E76, A76, D76, -, st76⟩ := newO X0 hx hZ hown (hw _ (List.mem_of_getElem? (i := 0) rfl)) (hw _ (List.mem_of_getElem? (i := 1) rfl)) (hw _ (List.mem_of_getElem? (i := 2) rfl)) e0 (g := (mkF m 113 #[.val (.int p1), .val (.long p2), .second, .val (.int p3), .val (.int p4), .val (.int p5), .val (.long p6), .second, .val (.int q8), .val (.long q9), .second, .val (.int q11), .val (.int q12), .val (.int (0 : Int32)), .unset, .unset, .unset, .unset, .unset, .unset, .unset, .unset] [])) rfl (hb hby at_113) (by decide) (by decide)
                obtain ⟨b76, g76⟩ : ∃ z, z = h0.size := ⟨_, rfl⟩
                rw [← g76] at A76 D76 st76
                have ne_ca_b76 : ¬ ca = b76 := Nat.ne_of_lt (by rw [g76]; exact Ca.lt)
                replace S_high := S_high.ext E76
                replace S_cache := S_cache.ext E76
                replace Ca := Ca.ext E76
                have g_b76 : n0 ≤ b76 := by rw [g76]; exact hn0
                have hn76 : n0 ≤ h76.size := Nat.le_trans hn0 E76.1
                have F_df_b76 : Fld Z h76 b76 "com/example/term_weight_evolver/termweightevolver/constraints/Probe" "df" "I" (.int (0 : Int32)) := D76 (Or.inr (hw _ (List.mem_of_getElem? (i := 10) rfl))) (ty := .int) (by decide)
                have F_cf_b76 : Fld Z h76 b76 "com/example/term_weight_evolver/termweightevolver/constraints/Probe" "cf" "J" (.long (0 : Int64)) := D76 (Or.inr (hw _ (List.mem_of_getElem? (i := 12) rfl))) (ty := .long) (by decide)
                have F_tf_b76 : Fld Z h76 b76 "com/example/term_weight_evolver/termweightevolver/constraints/Probe" "tf" "I" (.int (0 : Int32)) := D76 (Or.inr (hw _ (List.mem_of_getElem? (i := 14) rfl))) (ty := .int) (by decide)
                have F_dl_b76 : Fld Z h76 b76 "com/example/term_weight_evolver/termweightevolver/constraints/Probe" "dl" "I" (.int (0 : Int32)) := D76 (Or.inr (hw _ (List.mem_of_getElem? (i := 16) rfl))) (ty := .int) (by decide)
                refine own_go (fun t k => st76 t k) ?_
                show Go _ _ _ _ _ T76 (mkF m 116 #[.val (.int p1), .val (.long p2), .second, .val (.int p3), .val (.int p4), .val (.int p5), .val (.long p6), .second, .val (.int q8), .val (.long q9), .second, .val (.int q11), .val (.int q12), .val (.int (0 : Int32)), .unset, .unset, .unset, .unset, .unset, .unset, .unset, .unset] [(.ref b76)])
                refine own_go (fun t k => XS.dup X76.here hx rfl (hb hby at_116) rfl rfl k) ?_
                show Go _ _ _ _ _ T76 (mkF m 117 #[.val (.int p1), .val (.long p2), .second, .val (.int p3), .val (.int p4), .val (.int p5), .val (.long p6), .second, .val (.int q8), .val (.long q9), .second, .val (.int q11), .val (.int q12), .val (.int (0 : Int32)), .unset, .unset, .unset, .unset, .unset, .unset, .unset, .unset] [(.ref b76), (.ref b76)])
                refine own_go (fun t k => XS.iloadN X76.here hx rfl (hb hby at_117) rfl k) ?_
                show Go _ _ _ _ _ T76 (mkF m 118 #[.val (.int p1), .val (.long p2), .second, .val (.int p3), .val (.int p4), .val (.int p5), .val (.long p6), .second, .val (.int q8), .val (.long q9), .second, .val (.int q11), .val (.int q12), .val (.int (0 : Int32)), .unset, .unset, .unset, .unset, .unset, .unset, .unset, .unset] [(.int p1), (.ref b76), (.ref b76)])
                refine own_go (fun t k => XS.lloadN X76.here hx rfl (hb hby at_118) rfl k) ?_
                show Go _ _ _ _ _ T76 (mkF m 119 #[.val (.int p1), .val (.long p2), .second, .val (.int p3), .val (.int p4), .val (.int p5), .val (.long p6), .second, .val (.int q8), .val (.long q9), .second, .val (.int q11), .val (.int q12), .val (.int (0 : Int32)), .unset, .unset, .unset, .unset, .unset, .unset, .unset, .unset] [(.long p2), (.int p1), (.ref b76), (.ref b76)])
                refine own_go (fun t k => XS.iloadN X76.here hx rfl (hb hby at_119) rfl k) ?_
                show Go _ _ _ _ _ T76 (mkF m 120 #[.val (.int p1), .val (.long p2), .second, .val (.int p3), .val (.int p4), .val (.int p5), .val (.long p6), .second, .val (.int q8), .val (.long q9), .second, .val (.int q11), .val (.int q12), .val (.int (0 : Int32)), .unset, .unset, .unset, .unset, .unset, .unset, .unset, .unset] [(.int p3), (.long p2), (.int p1), (.ref b76), (.ref b76)])
                refine own_go (fun t k => XS.iload X76.here hx rfl (hb hby at_120) rfl k) ?_
                show Go _ _ _ _ _ T76 (mkF m 122 #[.val (.int p1), .val (.long p2), .second, .val (.int p3), .val (.int p4), .val (.int p5), .val (.long p6), .second, .val (.int q8), .val (.long q9), .second, .val (.int q11), .val (.int q12), .val (.int (0 : Int32)), .unset, .unset, .unset, .unset, .unset, .unset, .unset, .unset] [(.int p4), (.int p3), (.long p2), (.int p1), (.ref b76), (.ref b76)])
                refine own_callI X76 hx hZ (y := (⟨"com/example/term_weight_evolver/termweightevolver/constraints/Probe", "<init>", "(IJII)V"⟩ : MethodName)) rfl hown (hw _ (List.mem_of_getElem? (i := 3) rfl)) (hw _ (List.mem_of_getElem? (i := 4) rfl)) (hw _ (List.mem_of_getElem? (i := 5) rfl)) (hw _ (List.mem_of_getElem? (i := 2) rfl)) (by decide) (rm1 l Z a0 hw [] b76 p1 p2 p3 p4 h76 n0 hn76 A76 g_b76 F_df_b76 F_cf_b76 F_tf_b76 F_dl_b76 ) e76 (b := b76) (by rw [hml]; rfl) (argsL := [(.int p1), (.long p2), (.int p3), (.int p4)]) (rest := [(.ref b76)]) rfl rfl (lenOf own_pd2 rfl) (W := 1) (Nat.le_of_eq rfl) (by decide) (by decide) (hb hby at_122) (by decide) (by decide) ?_
                intro v77 T77 L77 X77 q77
                obtain ⟨rfl, N77q, K77, Ex77, F77_df, F77_cf, F77_tf, F77_dl⟩ := q77
                have N77 := Fr.app N0 N77q
                replace S_high := own_sta_keep S_high K77 (allS ⟨_, A76⟩ all0)
                replace S_cache := own_sta_keep S_cache K77 (allS ⟨_, A76⟩ all0)
                replace Ca := Ca.keep K77 (ninS ne_ca_b76 nin0)
                replace A76 := A76.keep K77
                have hn77 : n0 ≤ T77.heap.size := Nat.le_trans hn76 K77.1
                show Go _ _ _ _ _ T77 (mkF m 125 #[.val (.int p1), .val (.long p2), .second, .val (.int p3), .val (.int p4), .val (.int p5), .val (.long p6), .second, .val (.int q8), .val (.long q9), .second, .val (.int q11), .val (.int q12), .val (.int (0 : Int32)), .unset, .unset, .unset, .unset, .unset, .unset, .unset, .unset] [(.ref b76)])
                refine own_go (fun t k => XS.astore X77.here hx rfl (hb hby at_125) rfl rfl (l' := #[.val (.int p1), .val (.long p2), .second, .val (.int p3), .val (.int p4), .val (.int p5), .val (.long p6), .second, .val (.int q8), .val (.long q9), .second, .val (.int q11), .val (.int q12), .val (.int (0 : Int32)), .val (.ref b76), .unset, .unset, .unset, .unset, .unset, .unset, .unset]) rfl k) ?_
                show Go _ _ _ _ _ T77 (mkF m 127 #[.val (.int p1), .val (.long p2), .second, .val (.int p3), .val (.int p4), .val (.int p5), .val (.long p6), .second, .val (.int q8), .val (.long q9), .second, .val (.int q11), .val (.int q12), .val (.int (0 : Int32)), .val (.ref b76), .unset, .unset, .unset, .unset, .unset, .unset, .unset] [])
                obtain ⟨T78, h78, X78, e78, E78, A78, D78, -, st78⟩ := newO X77 hx hZ hown (hw _ (List.mem_of_getElem? (i := 0) rfl)) (hw _ (List.mem_of_getElem? (i := 1) rfl)) (hw _ (List.mem_of_getElem? (i := 2) rfl)) rfl (g := (mkF m 127 #[.val (.int p1), .val (.long p2), .second, .val (.int p3), .val (.int p4), .val (.int p5), .val (.long p6), .second, .val (.int q8), .val (.long q9), .second, .val (.int q11), .val (.int q12), .val (.int (0 : Int32)), .val (.ref b76), .unset, .unset, .unset, .unset, .unset, .unset, .unset] [])) rfl (hb hby at_127) (by decide) (by decide)
                obtain ⟨b78, g78⟩ : ∃ z, z = T77.heap.size := ⟨_, rfl⟩
                rw [← g78] at A78 D78 st78
                have ne_b76_b78 : ¬ b76 = b78 := Nat.ne_of_lt (by rw [g78]; exact Ex77.lt)
                have ne_ca_b78 : ¬ ca = b78 := Nat.ne_of_lt (by rw [g78]; exact Ca.lt)
                replace S_high := S_high.ext E78
                replace S_cache := S_cache.ext E78
                replace Ex77 := Ex77.ext E78
                replace F77_df := F77_df.ext E78
                replace F77_cf := F77_cf.ext E78
                replace F77_tf := F77_tf.ext E78
                replace F77_dl := F77_dl.ext E78
                replace Ca := Ca.ext E78
                have g_b78 : n0 ≤ b78 := by rw [g78]; exact hn77
                have hn78 : n0 ≤ h78.size := Nat.le_trans hn77 E78.1
                have F_df_b78 : Fld Z h78 b78 "com/example/term_weight_evolver/termweightevolver/constraints/Probe" "df" "I" (.int (0 : Int32)) := D78 (Or.inr (hw _ (List.mem_of_getElem? (i := 10) rfl))) (ty := .int) (by decide)
                have F_cf_b78 : Fld Z h78 b78 "com/example/term_weight_evolver/termweightevolver/constraints/Probe" "cf" "J" (.long (0 : Int64)) := D78 (Or.inr (hw _ (List.mem_of_getElem? (i := 12) rfl))) (ty := .long) (by decide)
                have F_tf_b78 : Fld Z h78 b78 "com/example/term_weight_evolver/termweightevolver/constraints/Probe" "tf" "I" (.int (0 : Int32)) := D78 (Or.inr (hw _ (List.mem_of_getElem? (i := 14) rfl))) (ty := .int) (by decide)
                have F_dl_b78 : Fld Z h78 b78 "com/example/term_weight_evolver/termweightevolver/constraints/Probe" "dl" "I" (.int (0 : Int32)) := D78 (Or.inr (hw _ (List.mem_of_getElem? (i := 16) rfl))) (ty := .int) (by decide)
                refine own_go (fun t k => st78 t k) ?_
                show Go _ _ _ _ _ T78 (mkF m 130 #[.val (.int p1), .val (.long p2), .second, .val (.int p3), .val (.int p4), .val (.int p5), .val (.long p6), .second, .val (.int q8), .val (.long q9), .second, .val (.int q11), .val (.int q12), .val (.int (0 : Int32)), .val (.ref b76), .unset, .unset, .unset, .unset, .unset, .unset, .unset] [(.ref b78)])
                refine own_go (fun t k => XS.dup X78.here hx rfl (hb hby at_130) rfl rfl k) ?_
                show Go _ _ _ _ _ T78 (mkF m 131 #[.val (.int p1), .val (.long p2), .second, .val (.int p3), .val (.int p4), .val (.int p5), .val (.long p6), .second, .val (.int q8), .val (.long q9), .second, .val (.int q11), .val (.int q12), .val (.int (0 : Int32)), .val (.ref b76), .unset, .unset, .unset, .unset, .unset, .unset, .unset] [(.ref b78), (.ref b78)])
                refine own_go (fun t k => XS.iload X78.here hx rfl (hb hby at_131) rfl k) ?_
                show Go _ _ _ _ _ T78 (mkF m 133 #[.val (.int p1), .val (.long p2), .second, .val (.int p3), .val (.int p4), .val (.int p5), .val (.long p6), .second, .val (.int q8), .val (.long q9), .second, .val (.int q11), .val (.int q12), .val (.int (0 : Int32)), .val (.ref b76), .unset, .unset, .unset, .unset, .unset, .unset, .unset] [(.int q8), (.ref b78), (.ref b78)])
                refine own_go (fun t k => XS.lload X78.here hx rfl (hb hby at_133) rfl k) ?_
                show Go _ _ _ _ _ T78 (mkF m 135 #[.val (.int p1), .val (.long p2), .second, .val (.int p3), .val (.int p4), .val (.int p5), .val (.long p6), .second, .val (.int q8), .val (.long q9), .second, .val (.int q11), .val (.int q12), .val (.int (0 : Int32)), .val (.ref b76), .unset, .unset, .unset, .unset, .unset, .unset, .unset] [(.long q9), (.int q8), (.ref b78), (.ref b78)])
                refine own_go (fun t k => XS.iload X78.here hx rfl (hb hby at_135) rfl k) ?_
                show Go _ _ _ _ _ T78 (mkF m 137 #[.val (.int p1), .val (.long p2), .second, .val (.int p3), .val (.int p4), .val (.int p5), .val (.long p6), .second, .val (.int q8), .val (.long q9), .second, .val (.int q11), .val (.int q12), .val (.int (0 : Int32)), .val (.ref b76), .unset, .unset, .unset, .unset, .unset, .unset, .unset] [(.int q11), (.long q9), (.int q8), (.ref b78), (.ref b78)])
                refine own_go (fun t k => XS.iload X78.here hx rfl (hb hby at_137) rfl k) ?_
                show Go _ _ _ _ _ T78 (mkF m 139 #[.val (.int p1), .val (.long p2), .second, .val (.int p3), .val (.int p4), .val (.int p5), .val (.long p6), .second, .val (.int q8), .val (.long q9), .second, .val (.int q11), .val (.int q12), .val (.int (0 : Int32)), .val (.ref b76), .unset, .unset, .unset, .unset, .unset, .unset, .unset] [(.int q12), (.int q11), (.long q9), (.int q8), (.ref b78), (.ref b78)])
                refine own_callI X78 hx hZ (y := (⟨"com/example/term_weight_evolver/termweightevolver/constraints/Probe", "<init>", "(IJII)V"⟩ : MethodName)) rfl hown (hw _ (List.mem_of_getElem? (i := 3) rfl)) (hw _ (List.mem_of_getElem? (i := 4) rfl)) (hw _ (List.mem_of_getElem? (i := 5) rfl)) (hw _ (List.mem_of_getElem? (i := 2) rfl)) (by decide) (rm1 l Z a0 hw [] b78 q8 q9 q11 q12 h78 n0 hn78 A78 g_b78 F_df_b78 F_cf_b78 F_tf_b78 F_dl_b78 ) e78 (b := b78) (by rw [hml]; rfl) (argsL := [(.int q8), (.long q9), (.int q11), (.int q12)]) (rest := [(.ref b78)]) rfl rfl (lenOf own_pd2 rfl) (W := 1) (Nat.le_of_eq rfl) (by decide) (by decide) (hb hby at_139) (by decide) (by decide) ?_
                intro v79 T79 L79 X79 q79
                obtain ⟨rfl, N79q, K79, Ex79, F79_df, F79_cf, F79_tf, F79_dl⟩ := q79
                have N79 := Fr.app N77 N79q
                replace S_high := own_sta_keep S_high K79 (allS ⟨_, A78⟩ all0)
                replace S_cache := own_sta_keep S_cache K79 (allS ⟨_, A78⟩ all0)
                replace F77_df := F77_df.keep K79 (ninS ne_b76_b78 nin0)
                replace F77_cf := F77_cf.keep K79 (ninS ne_b76_b78 nin0)
                replace F77_tf := F77_tf.keep K79 (ninS ne_b76_b78 nin0)
                replace F77_dl := F77_dl.keep K79 (ninS ne_b76_b78 nin0)
                replace Ca := Ca.keep K79 (ninS ne_ca_b78 nin0)
                replace Ex77 := Ex77.keep K79
                replace A78 := A78.keep K79
                have hn79 : n0 ≤ T79.heap.size := Nat.le_trans hn78 K79.1
                show Go _ _ _ _ _ T79 (mkF m 142 #[.val (.int p1), .val (.long p2), .second, .val (.int p3), .val (.int p4), .val (.int p5), .val (.long p6), .second, .val (.int q8), .val (.long q9), .second, .val (.int q11), .val (.int q12), .val (.int (0 : Int32)), .val (.ref b76), .unset, .unset, .unset, .unset, .unset, .unset, .unset] [(.ref b78)])
                refine own_go (fun t k => XS.astore X79.here hx rfl (hb hby at_142) rfl rfl (l' := #[.val (.int p1), .val (.long p2), .second, .val (.int p3), .val (.int p4), .val (.int p5), .val (.long p6), .second, .val (.int q8), .val (.long q9), .second, .val (.int q11), .val (.int q12), .val (.int (0 : Int32)), .val (.ref b76), .val (.ref b78), .unset, .unset, .unset, .unset, .unset, .unset]) rfl k) ?_
                show Go _ _ _ _ _ T79 (mkF m 144 #[.val (.int p1), .val (.long p2), .second, .val (.int p3), .val (.int p4), .val (.int p5), .val (.long p6), .second, .val (.int q8), .val (.long q9), .second, .val (.int q11), .val (.int q12), .val (.int (0 : Int32)), .val (.ref b76), .val (.ref b78), .unset, .unset, .unset, .unset, .unset, .unset] [])
                refine own_go (fun t k => XS.iloadN X79.here hx rfl (hb hby at_144) rfl k) ?_
                show Go _ _ _ _ _ T79 (mkF m 145 #[.val (.int p1), .val (.long p2), .second, .val (.int p3), .val (.int p4), .val (.int p5), .val (.long p6), .second, .val (.int q8), .val (.long q9), .second, .val (.int q11), .val (.int q12), .val (.int (0 : Int32)), .val (.ref b76), .val (.ref b78), .unset, .unset, .unset, .unset, .unset, .unset] [(.int p1)])
                refine own_callS X79 hx hZ (y := (⟨"java/lang/Integer", "valueOf", "(I)Ljava/lang/Integer;"⟩ : MethodName)) hown (hw _ (List.mem_of_getElem? (i := 17) rfl)) (hw _ (List.mem_of_getElem? (i := 18) rfl)) (hw _ (List.mem_of_getElem? (i := 19) rfl)) (hw _ (List.mem_of_getElem? (i := 20) rfl)) (by decide) (rm3 l Z a0 hw [] p1 ca T79.heap n0 hn79 S_high S_cache Ca) rfl (by rw [hml]; rfl) (argsL := [(.int p1)]) (rest := []) rfl rfl (lenOf own_pd3 rfl) (W := 0) (Nat.le_of_eq rfl) (by decide) (by decide) (hb hby at_145) (by decide) (by decide) ?_
                intro v80 T80 L80 X80 q80
                obtain ⟨b80, rfl, N80q, K80, Ex80⟩ := q80
                have N80 := Fr.app N79 N80q
                replace S_high := own_sta_keep S_high K80 all0
                replace S_cache := own_sta_keep S_cache K80 all0
                replace F77_df := F77_df.keep K80 nin0
                replace F77_cf := F77_cf.keep K80 nin0
                replace F77_tf := F77_tf.keep K80 nin0
                replace F77_dl := F77_dl.keep K80 nin0
                replace F79_df := F79_df.keep K80 nin0
                replace F79_cf := F79_cf.keep K80 nin0
                replace F79_tf := F79_tf.keep K80 nin0
                replace F79_dl := F79_dl.keep K80 nin0
                replace Ca := Ca.keep K80 nin0
                replace Ex77 := Ex77.keep K80
                replace Ex79 := Ex79.keep K80
                have hn80 : n0 ≤ T80.heap.size := Nat.le_trans hn79 K80.1
                show Go _ _ _ _ _ T80 (mkF m 148 #[.val (.int p1), .val (.long p2), .second, .val (.int p3), .val (.int p4), .val (.int p5), .val (.long p6), .second, .val (.int q8), .val (.long q9), .second, .val (.int q11), .val (.int q12), .val (.int (0 : Int32)), .val (.ref b76), .val (.ref b78), .unset, .unset, .unset, .unset, .unset, .unset] [(.ref b80)])
                refine own_go (fun t k => XS.astore X80.here hx rfl (hb hby at_148) rfl rfl (l' := #[.val (.int p1), .val (.long p2), .second, .val (.int p3), .val (.int p4), .val (.int p5), .val (.long p6), .second, .val (.int q8), .val (.long q9), .second, .val (.int q11), .val (.int q12), .val (.int (0 : Int32)), .val (.ref b76), .val (.ref b78), .val (.ref b80), .unset, .unset, .unset, .unset, .unset]) rfl k) ?_
                show Go _ _ _ _ _ T80 (mkF m 150 #[.val (.int p1), .val (.long p2), .second, .val (.int p3), .val (.int p4), .val (.int p5), .val (.long p6), .second, .val (.int q8), .val (.long q9), .second, .val (.int q11), .val (.int q12), .val (.int (0 : Int32)), .val (.ref b76), .val (.ref b78), .val (.ref b80), .unset, .unset, .unset, .unset, .unset] [])
                refine own_go (fun t k => XS.aload X80.here hx rfl (hb hby at_150) rfl rfl k) ?_
                show Go _ _ _ _ _ T80 (mkF m 152 #[.val (.int p1), .val (.long p2), .second, .val (.int p3), .val (.int p4), .val (.int p5), .val (.long p6), .second, .val (.int q8), .val (.long q9), .second, .val (.int q11), .val (.int q12), .val (.int (0 : Int32)), .val (.ref b76), .val (.ref b78), .val (.ref b80), .unset, .unset, .unset, .unset, .unset] [(.ref b76)])
                refine own_go (fun t k => XS.aload X80.here hx rfl (hb hby at_152) rfl rfl k) ?_
                show Go _ _ _ _ _ T80 (mkF m 154 #[.val (.int p1), .val (.long p2), .second, .val (.int p3), .val (.int p4), .val (.int p5), .val (.long p6), .second, .val (.int q8), .val (.long q9), .second, .val (.int q11), .val (.int q12), .val (.int (0 : Int32)), .val (.ref b76), .val (.ref b78), .val (.ref b80), .unset, .unset, .unset, .unset, .unset] [(.ref b78), (.ref b76)])
                refine own_callV X80 hx hZ (y := (⟨"com/example/term_weight_evolver/termweightevolver/constraints/Probe", "equals", "(Ljava/lang/Object;)Z"⟩ : MethodName)) hown (hw _ (List.mem_of_getElem? (i := 24) rfl)) (hw _ (List.mem_of_getElem? (i := 25) rfl)) (hw _ (List.mem_of_getElem? (i := 27) rfl)) (hw _ (List.mem_of_getElem? (i := 26) rfl)) (hw _ (List.mem_of_getElem? (i := 28) rfl)) (hw _ (List.mem_of_getElem? (i := 2) rfl)) (by decide) (rm_eq_same l Z a0 hw [] b76 b78 p1 p2 p3 p4 q8 q9 q11 q12 (0 : Int32) T80.heap n0 hn80 Ex79 F77_df F77_cf F77_tf F77_dl F79_df F79_cf F79_tf F79_dl (by rw [own_f_rm_eq_same, if_pos (hc53).symm, if_pos hsym, if_neg (fun q => hc75 q.symm)]; try first | rfl | decide)) rfl Ex77 (by rw [hml]; rfl) (argsL := [(.ref b78)]) (rest := []) rfl rfl (lenOf own_pd4 rfl) (W := 0) (Nat.le_of_eq rfl) (by decide) (by decide) (hb hby at_154) (by decide) (by decide) ?_
                intro v81 T81 L81 X81 q81
                obtain ⟨rfl, N81q, e81⟩ := q81
                have N81 := Fr.app N80 N81q
                show Go _ _ _ _ _ T81 (mkF m 157 #[.val (.int p1), .val (.long p2), .second, .val (.int p3), .val (.int p4), .val (.int p5), .val (.long p6), .second, .val (.int q8), .val (.long q9), .second, .val (.int q11), .val (.int q12), .val (.int (0 : Int32)), .val (.ref b76), .val (.ref b78), .val (.ref b80), .unset, .unset, .unset, .unset, .unset] [(.int (0 : Int32))])
                refine own_go (fun t k => XS.istore X81.here hx rfl (hb hby at_157) rfl (l' := #[.val (.int p1), .val (.long p2), .second, .val (.int p3), .val (.int p4), .val (.int p5), .val (.long p6), .second, .val (.int q8), .val (.long q9), .second, .val (.int q11), .val (.int q12), .val (.int (0 : Int32)), .val (.ref b76), .val (.ref b78), .val (.ref b80), .val (.int (0 : Int32)), .unset, .unset, .unset, .unset]) rfl k) ?_
                show Go _ _ _ _ _ T81 (mkF m 159 #[.val (.int p1), .val (.long p2), .second, .val (.int p3), .val (.int p4), .val (.int p5), .val (.long p6), .second, .val (.int q8), .val (.long q9), .second, .val (.int q11), .val (.int q12), .val (.int (0 : Int32)), .val (.ref b76), .val (.ref b78), .val (.ref b80), .val (.int (0 : Int32)), .unset, .unset, .unset, .unset] [])
                refine own_go (fun t k => XS.aload X81.here hx rfl (hb hby at_159) rfl rfl k) ?_
                show Go _ _ _ _ _ T81 (mkF m 161 #[.val (.int p1), .val (.long p2), .second, .val (.int p3), .val (.int p4), .val (.int p5), .val (.long p6), .second, .val (.int q8), .val (.long q9), .second, .val (.int q11), .val (.int q12), .val (.int (0 : Int32)), .val (.ref b76), .val (.ref b78), .val (.ref b80), .val (.int (0 : Int32)), .unset, .unset, .unset, .unset] [(.ref b78)])
                refine own_go (fun t k => XS.aload X81.here hx rfl (hb hby at_161) rfl rfl k) ?_
                show Go _ _ _ _ _ T81 (mkF m 163 #[.val (.int p1), .val (.long p2), .second, .val (.int p3), .val (.int p4), .val (.int p5), .val (.long p6), .second, .val (.int q8), .val (.long q9), .second, .val (.int q11), .val (.int q12), .val (.int (0 : Int32)), .val (.ref b76), .val (.ref b78), .val (.ref b80), .val (.int (0 : Int32)), .unset, .unset, .unset, .unset] [(.ref b76), (.ref b78)])
                refine own_callV X81 hx hZ (y := (⟨"com/example/term_weight_evolver/termweightevolver/constraints/Probe", "equals", "(Ljava/lang/Object;)Z"⟩ : MethodName)) hown (hw _ (List.mem_of_getElem? (i := 24) rfl)) (hw _ (List.mem_of_getElem? (i := 25) rfl)) (hw _ (List.mem_of_getElem? (i := 27) rfl)) (hw _ (List.mem_of_getElem? (i := 26) rfl)) (hw _ (List.mem_of_getElem? (i := 28) rfl)) (hw _ (List.mem_of_getElem? (i := 2) rfl)) (by decide) (rm_eq_same l Z a0 hw [] b78 b76 q8 q9 q11 q12 p1 p2 p3 p4 (0 : Int32) T80.heap n0 hn80 Ex77 F79_df F79_cf F79_tf F79_dl F77_df F77_cf F77_tf F77_dl (by rw [own_f_rm_eq_same, if_pos hc53, if_pos hc64, if_neg hc75]; try first | rfl | decide)) e81 Ex79 (by rw [hml]; rfl) (argsL := [(.ref b76)]) (rest := []) rfl rfl (lenOf own_pd4 rfl) (W := 0) (Nat.le_of_eq rfl) (by decide) (by decide) (hb hby at_163) (by decide) (by decide) ?_
                intro v82 T82 L82 X82 q82
                obtain ⟨rfl, N82q, e82⟩ := q82
                have N82 := Fr.app N81 N82q
                show Go _ _ _ _ _ T82 (mkF m 166 #[.val (.int p1), .val (.long p2), .second, .val (.int p3), .val (.int p4), .val (.int p5), .val (.long p6), .second, .val (.int q8), .val (.long q9), .second, .val (.int q11), .val (.int q12), .val (.int (0 : Int32)), .val (.ref b76), .val (.ref b78), .val (.ref b80), .val (.int (0 : Int32)), .unset, .unset, .unset, .unset] [(.int (0 : Int32))])
                refine own_go (fun t k => XS.istore X82.here hx rfl (hb hby at_166) rfl (l' := #[.val (.int p1), .val (.long p2), .second, .val (.int p3), .val (.int p4), .val (.int p5), .val (.long p6), .second, .val (.int q8), .val (.long q9), .second, .val (.int q11), .val (.int q12), .val (.int (0 : Int32)), .val (.ref b76), .val (.ref b78), .val (.ref b80), .val (.int (0 : Int32)), .val (.int (0 : Int32)), .unset, .unset, .unset]) rfl k) ?_
                show Go _ _ _ _ _ T82 (mkF m 168 #[.val (.int p1), .val (.long p2), .second, .val (.int p3), .val (.int p4), .val (.int p5), .val (.long p6), .second, .val (.int q8), .val (.long q9), .second, .val (.int q11), .val (.int q12), .val (.int (0 : Int32)), .val (.ref b76), .val (.ref b78), .val (.ref b80), .val (.int (0 : Int32)), .val (.int (0 : Int32)), .unset, .unset, .unset] [])
                refine own_go (fun t k => XS.aload X82.here hx rfl (hb hby at_168) rfl rfl k) ?_
                show Go _ _ _ _ _ T82 (mkF m 170 #[.val (.int p1), .val (.long p2), .second, .val (.int p3), .val (.int p4), .val (.int p5), .val (.long p6), .second, .val (.int q8), .val (.long q9), .second, .val (.int q11), .val (.int q12), .val (.int (0 : Int32)), .val (.ref b76), .val (.ref b78), .val (.ref b80), .val (.int (0 : Int32)), .val (.int (0 : Int32)), .unset, .unset, .unset] [(.ref b76)])
                refine own_go (fun t k => XS.aload X82.here hx rfl (hb hby at_170) rfl rfl k) ?_
                show Go _ _ _ _ _ T82 (mkF m 172 #[.val (.int p1), .val (.long p2), .second, .val (.int p3), .val (.int p4), .val (.int p5), .val (.long p6), .second, .val (.int q8), .val (.long q9), .second, .val (.int q11), .val (.int q12), .val (.int (0 : Int32)), .val (.ref b76), .val (.ref b78), .val (.ref b80), .val (.int (0 : Int32)), .val (.int (0 : Int32)), .unset, .unset, .unset] [(.ref b76), (.ref b76)])
                refine own_callV X82 hx hZ (y := (⟨"com/example/term_weight_evolver/termweightevolver/constraints/Probe", "equals", "(Ljava/lang/Object;)Z"⟩ : MethodName)) hown (hw _ (List.mem_of_getElem? (i := 24) rfl)) (hw _ (List.mem_of_getElem? (i := 25) rfl)) (hw _ (List.mem_of_getElem? (i := 27) rfl)) (hw _ (List.mem_of_getElem? (i := 26) rfl)) (hw _ (List.mem_of_getElem? (i := 28) rfl)) (hw _ (List.mem_of_getElem? (i := 2) rfl)) (by decide) (rm_eq_same l Z a0 hw [] b76 b76 p1 p2 p3 p4 p1 p2 p3 p4 (1 : Int32) T80.heap n0 hn80 Ex77 F77_df F77_cf F77_tf F77_dl F77_df F77_cf F77_tf F77_dl (by rw [own_f_rm_eq_same, if_pos (show p1 = p1 from rfl), if_pos hself, if_pos (show p3 = p3 from rfl), if_pos (show p4 = p4 from rfl)]; try first | rfl | decide)) e82 Ex77 (by rw [hml]; rfl) (argsL := [(.ref b76)]) (rest := []) rfl rfl (lenOf own_pd4 rfl) (W := 0) (Nat.le_of_eq rfl) (by decide) (by decide) (hb hby at_172) (by decide) (by decide) ?_
                intro v83 T83 L83 X83 q83
                obtain ⟨rfl, N83q, e83⟩ := q83
                have N83 := Fr.app N82 N83q
                show Go _ _ _ _ _ T83 (mkF m 175 #[.val (.int p1), .val (.long p2), .second, .val (.int p3), .val (.int p4), .val (.int p5), .val (.long p6), .second, .val (.int q8), .val (.long q9), .second, .val (.int q11), .val (.int q12), .val (.int (0 : Int32)), .val (.ref b76), .val (.ref b78), .val (.ref b80), .val (.int (0 : Int32)), .val (.int (0 : Int32)), .unset, .unset, .unset] [(.int (1 : Int32))])
                refine own_go (fun t k => XS.istore X83.here hx rfl (hb hby at_175) rfl (l' := #[.val (.int p1), .val (.long p2), .second, .val (.int p3), .val (.int p4), .val (.int p5), .val (.long p6), .second, .val (.int q8), .val (.long q9), .second, .val (.int q11), .val (.int q12), .val (.int (0 : Int32)), .val (.ref b76), .val (.ref b78), .val (.ref b80), .val (.int (0 : Int32)), .val (.int (0 : Int32)), .val (.int (1 : Int32)), .unset, .unset]) rfl k) ?_
                show Go _ _ _ _ _ T83 (mkF m 177 #[.val (.int p1), .val (.long p2), .second, .val (.int p3), .val (.int p4), .val (.int p5), .val (.long p6), .second, .val (.int q8), .val (.long q9), .second, .val (.int q11), .val (.int q12), .val (.int (0 : Int32)), .val (.ref b76), .val (.ref b78), .val (.ref b80), .val (.int (0 : Int32)), .val (.int (0 : Int32)), .val (.int (1 : Int32)), .unset, .unset] [])
                refine own_go (fun t k => XS.aload X83.here hx rfl (hb hby at_177) rfl rfl k) ?_
                show Go _ _ _ _ _ T83 (mkF m 179 #[.val (.int p1), .val (.long p2), .second, .val (.int p3), .val (.int p4), .val (.int p5), .val (.long p6), .second, .val (.int q8), .val (.long q9), .second, .val (.int q11), .val (.int q12), .val (.int (0 : Int32)), .val (.ref b76), .val (.ref b78), .val (.ref b80), .val (.int (0 : Int32)), .val (.int (0 : Int32)), .val (.int (1 : Int32)), .unset, .unset] [(.ref b76)])
                refine own_go (fun t k => XS.aconstNull X83.here hx rfl (hb hby at_179) k) ?_
                show Go _ _ _ _ _ T83 (mkF m 180 #[.val (.int p1), .val (.long p2), .second, .val (.int p3), .val (.int p4), .val (.int p5), .val (.long p6), .second, .val (.int q8), .val (.long q9), .second, .val (.int q11), .val (.int q12), .val (.int (0 : Int32)), .val (.ref b76), .val (.ref b78), .val (.ref b80), .val (.int (0 : Int32)), .val (.int (0 : Int32)), .val (.int (1 : Int32)), .unset, .unset] [.null, (.ref b76)])
                refine own_callV X83 hx hZ (y := (⟨"com/example/term_weight_evolver/termweightevolver/constraints/Probe", "equals", "(Ljava/lang/Object;)Z"⟩ : MethodName)) hown (hw _ (List.mem_of_getElem? (i := 24) rfl)) (hw _ (List.mem_of_getElem? (i := 25) rfl)) (hw _ (List.mem_of_getElem? (i := 27) rfl)) (hw _ (List.mem_of_getElem? (i := 26) rfl)) (hw _ (List.mem_of_getElem? (i := 28) rfl)) (hw _ (List.mem_of_getElem? (i := 2) rfl)) (by decide) (rm_eq_null l Z a0 hw [] b76 (0 : Int32) T80.heap n0 hn80  (by rw [own_f_rm_eq_null]; try first | rfl | decide)) e83 Ex77 (by rw [hml]; rfl) (argsL := [.null]) (rest := []) rfl rfl (lenOf own_pd4 rfl) (W := 0) (Nat.le_of_eq rfl) (by decide) (by decide) (hb hby at_180) (by decide) (by decide) ?_
                intro v84 T84 L84 X84 q84
                obtain ⟨rfl, N84q, e84⟩ := q84
                have N84 := Fr.app N83 N84q
                show Go _ _ _ _ _ T84 (mkF m 183 #[.val (.int p1), .val (.long p2), .second, .val (.int p3), .val (.int p4), .val (.int p5), .val (.long p6), .second, .val (.int q8), .val (.long q9), .second, .val (.int q11), .val (.int q12), .val (.int (0 : Int32)), .val (.ref b76), .val (.ref b78), .val (.ref b80), .val (.int (0 : Int32)), .val (.int (0 : Int32)), .val (.int (1 : Int32)), .unset, .unset] [(.int (0 : Int32))])
                refine own_go (fun t k => XS.istore X84.here hx rfl (hb hby at_183) rfl (l' := #[.val (.int p1), .val (.long p2), .second, .val (.int p3), .val (.int p4), .val (.int p5), .val (.long p6), .second, .val (.int q8), .val (.long q9), .second, .val (.int q11), .val (.int q12), .val (.int (0 : Int32)), .val (.ref b76), .val (.ref b78), .val (.ref b80), .val (.int (0 : Int32)), .val (.int (0 : Int32)), .val (.int (1 : Int32)), .val (.int (0 : Int32)), .unset]) rfl k) ?_
                show Go _ _ _ _ _ T84 (mkF m 185 #[.val (.int p1), .val (.long p2), .second, .val (.int p3), .val (.int p4), .val (.int p5), .val (.long p6), .second, .val (.int q8), .val (.long q9), .second, .val (.int q11), .val (.int q12), .val (.int (0 : Int32)), .val (.ref b76), .val (.ref b78), .val (.ref b80), .val (.int (0 : Int32)), .val (.int (0 : Int32)), .val (.int (1 : Int32)), .val (.int (0 : Int32)), .unset] [])
                refine own_go (fun t k => XS.aload X84.here hx rfl (hb hby at_185) rfl rfl k) ?_
                show Go _ _ _ _ _ T84 (mkF m 187 #[.val (.int p1), .val (.long p2), .second, .val (.int p3), .val (.int p4), .val (.int p5), .val (.long p6), .second, .val (.int q8), .val (.long q9), .second, .val (.int q11), .val (.int q12), .val (.int (0 : Int32)), .val (.ref b76), .val (.ref b78), .val (.ref b80), .val (.int (0 : Int32)), .val (.int (0 : Int32)), .val (.int (1 : Int32)), .val (.int (0 : Int32)), .unset] [(.ref b76)])
                refine own_go (fun t k => XS.aload X84.here hx rfl (hb hby at_187) rfl rfl k) ?_
                show Go _ _ _ _ _ T84 (mkF m 189 #[.val (.int p1), .val (.long p2), .second, .val (.int p3), .val (.int p4), .val (.int p5), .val (.long p6), .second, .val (.int q8), .val (.long q9), .second, .val (.int q11), .val (.int q12), .val (.int (0 : Int32)), .val (.ref b76), .val (.ref b78), .val (.ref b80), .val (.int (0 : Int32)), .val (.int (0 : Int32)), .val (.int (1 : Int32)), .val (.int (0 : Int32)), .unset] [(.ref b80), (.ref b76)])
                refine own_callV X84 hx hZ (y := (⟨"com/example/term_weight_evolver/termweightevolver/constraints/Probe", "equals", "(Ljava/lang/Object;)Z"⟩ : MethodName)) hown (hw _ (List.mem_of_getElem? (i := 24) rfl)) (hw _ (List.mem_of_getElem? (i := 25) rfl)) (hw _ (List.mem_of_getElem? (i := 27) rfl)) (hw _ (List.mem_of_getElem? (i := 26) rfl)) (hw _ (List.mem_of_getElem? (i := 28) rfl)) (hw _ (List.mem_of_getElem? (i := 2) rfl)) (by decide) (rm_eq_other l Z a0 hw [] b76 b80 (0 : Int32) T80.heap n0 hn80 Ex80 (by rw [own_f_rm_eq_other]; try first | rfl | decide)) e84 Ex77 (by rw [hml]; rfl) (argsL := [(.ref b80)]) (rest := []) rfl rfl (lenOf own_pd4 rfl) (W := 0) (Nat.le_of_eq rfl) (by decide) (by decide) (hb hby at_189) (by decide) (by decide) ?_
                intro v85 T85 L85 X85 q85
                obtain ⟨rfl, N85q, e85⟩ := q85
                have N85 := Fr.app N84 N85q
                show Go _ _ _ _ _ T85 (mkF m 192 #[.val (.int p1), .val (.long p2), .second, .val (.int p3), .val (.int p4), .val (.int p5), .val (.long p6), .second, .val (.int q8), .val (.long q9), .second, .val (.int q11), .val (.int q12), .val (.int (0 : Int32)), .val (.ref b76), .val (.ref b78), .val (.ref b80), .val (.int (0 : Int32)), .val (.int (0 : Int32)), .val (.int (1 : Int32)), .val (.int (0 : Int32)), .unset] [(.int (0 : Int32))])
                refine own_go (fun t k => XS.istore X85.here hx rfl (hb hby at_192) rfl (l' := #[.val (.int p1), .val (.long p2), .second, .val (.int p3), .val (.int p4), .val (.int p5), .val (.long p6), .second, .val (.int q8), .val (.long q9), .second, .val (.int q11), .val (.int q12), .val (.int (0 : Int32)), .val (.ref b76), .val (.ref b78), .val (.ref b80), .val (.int (0 : Int32)), .val (.int (0 : Int32)), .val (.int (1 : Int32)), .val (.int (0 : Int32)), .val (.int (0 : Int32))]) rfl k) ?_
                show Go _ _ _ _ _ T85 (mkF m 194 #[.val (.int p1), .val (.long p2), .second, .val (.int p3), .val (.int p4), .val (.int p5), .val (.long p6), .second, .val (.int q8), .val (.long q9), .second, .val (.int q11), .val (.int q12), .val (.int (0 : Int32)), .val (.ref b76), .val (.ref b78), .val (.ref b80), .val (.int (0 : Int32)), .val (.int (0 : Int32)), .val (.int (1 : Int32)), .val (.int (0 : Int32)), .val (.int (0 : Int32))] [])
                refine own_go (fun t k => XS.iload X85.here hx rfl (hb hby at_194) rfl k) ?_
                show Go _ _ _ _ _ T85 (mkF m 196 #[.val (.int p1), .val (.long p2), .second, .val (.int p3), .val (.int p4), .val (.int p5), .val (.long p6), .second, .val (.int q8), .val (.long q9), .second, .val (.int q11), .val (.int q12), .val (.int (0 : Int32)), .val (.ref b76), .val (.ref b78), .val (.ref b80), .val (.int (0 : Int32)), .val (.int (0 : Int32)), .val (.int (1 : Int32)), .val (.int (0 : Int32)), .val (.int (0 : Int32))] [(.int (0 : Int32))])
                refine own_go (fun t k => XS.iload X85.here hx rfl (hb hby at_196) rfl k) ?_
                show Go _ _ _ _ _ T85 (mkF m 198 #[.val (.int p1), .val (.long p2), .second, .val (.int p3), .val (.int p4), .val (.int p5), .val (.long p6), .second, .val (.int q8), .val (.long q9), .second, .val (.int q11), .val (.int q12), .val (.int (0 : Int32)), .val (.ref b76), .val (.ref b78), .val (.ref b80), .val (.int (0 : Int32)), .val (.int (0 : Int32)), .val (.int (1 : Int32)), .val (.int (0 : Int32)), .val (.int (0 : Int32))] [(.int (0 : Int32)), (.int (0 : Int32))])
                refine own_go (fun t k => XS.icmpNo X85.here hx rfl (hb hby at_198) rfl (by decide) k) ?_
                show Go _ _ _ _ _ T85 (mkF m 201 #[.val (.int p1), .val (.long p2), .second, .val (.int p3), .val (.int p4), .val (.int p5), .val (.long p6), .second, .val (.int q8), .val (.long q9), .second, .val (.int q11), .val (.int q12), .val (.int (0 : Int32)), .val (.ref b76), .val (.ref b78), .val (.ref b80), .val (.int (0 : Int32)), .val (.int (0 : Int32)), .val (.int (1 : Int32)), .val (.int (0 : Int32)), .val (.int (0 : Int32))] [])
                refine own_go (fun t k => XS.iload X85.here hx rfl (hb hby at_201) rfl k) ?_
                show Go _ _ _ _ _ T85 (mkF m 203 #[.val (.int p1), .val (.long p2), .second, .val (.int p3), .val (.int p4), .val (.int p5), .val (.long p6), .second, .val (.int q8), .val (.long q9), .second, .val (.int q11), .val (.int q12), .val (.int (0 : Int32)), .val (.ref b76), .val (.ref b78), .val (.ref b80), .val (.int (0 : Int32)), .val (.int (0 : Int32)), .val (.int (1 : Int32)), .val (.int (0 : Int32)), .val (.int (0 : Int32))] [(.int (0 : Int32))])
                refine own_go (fun t k => XS.iload X85.here hx rfl (hb hby at_203) rfl k) ?_
                show Go _ _ _ _ _ T85 (mkF m 205 #[.val (.int p1), .val (.long p2), .second, .val (.int p3), .val (.int p4), .val (.int p5), .val (.long p6), .second, .val (.int q8), .val (.long q9), .second, .val (.int q11), .val (.int q12), .val (.int (0 : Int32)), .val (.ref b76), .val (.ref b78), .val (.ref b80), .val (.int (0 : Int32)), .val (.int (0 : Int32)), .val (.int (1 : Int32)), .val (.int (0 : Int32)), .val (.int (0 : Int32))] [(.int (0 : Int32)), (.int (0 : Int32))])
                refine own_go (fun t k => XS.icmpNo X85.here hx rfl (hb hby at_205) rfl (by decide) k) ?_
                show Go _ _ _ _ _ T85 (mkF m 208 #[.val (.int p1), .val (.long p2), .second, .val (.int p3), .val (.int p4), .val (.int p5), .val (.long p6), .second, .val (.int q8), .val (.long q9), .second, .val (.int q11), .val (.int q12), .val (.int (0 : Int32)), .val (.ref b76), .val (.ref b78), .val (.ref b80), .val (.int (0 : Int32)), .val (.int (0 : Int32)), .val (.int (1 : Int32)), .val (.int (0 : Int32)), .val (.int (0 : Int32))] [])
                refine own_go (fun t k => XS.iload X85.here hx rfl (hb hby at_208) rfl k) ?_
                show Go _ _ _ _ _ T85 (mkF m 210 #[.val (.int p1), .val (.long p2), .second, .val (.int p3), .val (.int p4), .val (.int p5), .val (.long p6), .second, .val (.int q8), .val (.long q9), .second, .val (.int q11), .val (.int q12), .val (.int (0 : Int32)), .val (.ref b76), .val (.ref b78), .val (.ref b80), .val (.int (0 : Int32)), .val (.int (0 : Int32)), .val (.int (1 : Int32)), .val (.int (0 : Int32)), .val (.int (0 : Int32))] [(.int (1 : Int32))])
                refine own_go (fun t k => XS.ifNo X85.here hx rfl (hb hby at_210) rfl (by decide) k) ?_
                show Go _ _ _ _ _ T85 (mkF m 213 #[.val (.int p1), .val (.long p2), .second, .val (.int p3), .val (.int p4), .val (.int p5), .val (.long p6), .second, .val (.int q8), .val (.long q9), .second, .val (.int q11), .val (.int q12), .val (.int (0 : Int32)), .val (.ref b76), .val (.ref b78), .val (.ref b80), .val (.int (0 : Int32)), .val (.int (0 : Int32)), .val (.int (1 : Int32)), .val (.int (0 : Int32)), .val (.int (0 : Int32))] [])
                refine own_go (fun t k => XS.iload X85.here hx rfl (hb hby at_213) rfl k) ?_
                show Go _ _ _ _ _ T85 (mkF m 215 #[.val (.int p1), .val (.long p2), .second, .val (.int p3), .val (.int p4), .val (.int p5), .val (.long p6), .second, .val (.int q8), .val (.long q9), .second, .val (.int q11), .val (.int q12), .val (.int (0 : Int32)), .val (.ref b76), .val (.ref b78), .val (.ref b80), .val (.int (0 : Int32)), .val (.int (0 : Int32)), .val (.int (1 : Int32)), .val (.int (0 : Int32)), .val (.int (0 : Int32))] [(.int (0 : Int32))])
                refine own_go (fun t k => XS.ifNo X85.here hx rfl (hb hby at_215) rfl (by decide) k) ?_
                show Go _ _ _ _ _ T85 (mkF m 218 #[.val (.int p1), .val (.long p2), .second, .val (.int p3), .val (.int p4), .val (.int p5), .val (.long p6), .second, .val (.int q8), .val (.long q9), .second, .val (.int q11), .val (.int q12), .val (.int (0 : Int32)), .val (.ref b76), .val (.ref b78), .val (.ref b80), .val (.int (0 : Int32)), .val (.int (0 : Int32)), .val (.int (1 : Int32)), .val (.int (0 : Int32)), .val (.int (0 : Int32))] [])
                refine own_go (fun t k => XS.iload X85.here hx rfl (hb hby at_218) rfl k) ?_
                show Go _ _ _ _ _ T85 (mkF m 220 #[.val (.int p1), .val (.long p2), .second, .val (.int p3), .val (.int p4), .val (.int p5), .val (.long p6), .second, .val (.int q8), .val (.long q9), .second, .val (.int q11), .val (.int q12), .val (.int (0 : Int32)), .val (.ref b76), .val (.ref b78), .val (.ref b80), .val (.int (0 : Int32)), .val (.int (0 : Int32)), .val (.int (1 : Int32)), .val (.int (0 : Int32)), .val (.int (0 : Int32))] [(.int (0 : Int32))])
                refine own_go (fun t k => XS.ifNo X85.here hx rfl (hb hby at_220) rfl (by decide) k) ?_
                show Go _ _ _ _ _ T85 (mkF m 223 #[.val (.int p1), .val (.long p2), .second, .val (.int p3), .val (.int p4), .val (.int p5), .val (.long p6), .second, .val (.int q8), .val (.long q9), .second, .val (.int q11), .val (.int q12), .val (.int (0 : Int32)), .val (.ref b76), .val (.ref b78), .val (.ref b80), .val (.int (0 : Int32)), .val (.int (0 : Int32)), .val (.int (1 : Int32)), .val (.int (0 : Int32)), .val (.int (0 : Int32))] [])
                refine own_go (fun t k => XS.iconst X85.here hx rfl (hb hby at_223) k) ?_
                show Go _ _ _ _ _ T85 (mkF m 224 #[.val (.int p1), .val (.long p2), .second, .val (.int p3), .val (.int p4), .val (.int p5), .val (.long p6), .second, .val (.int q8), .val (.long q9), .second, .val (.int q11), .val (.int q12), .val (.int (0 : Int32)), .val (.ref b76), .val (.ref b78), .val (.ref b80), .val (.int (0 : Int32)), .val (.int (0 : Int32)), .val (.int (1 : Int32)), .val (.int (0 : Int32)), .val (.int (0 : Int32))] [(.int (1 : Int32))])
                refine own_go (fun t k => XS.goto X85.here hx rfl (pc0 := 224) (pc' := 228) rfl (hb hby at_224) (by decide) (by decide) k) ?_
                show Go _ _ _ _ _ T85 (mkF m 228 #[.val (.int p1), .val (.long p2), .second, .val (.int p3), .val (.int p4), .val (.int p5), .val (.long p6), .second, .val (.int q8), .val (.long q9), .second, .val (.int q11), .val (.int q12), .val (.int (0 : Int32)), .val (.ref b76), .val (.ref b78), .val (.ref b80), .val (.int (0 : Int32)), .val (.int (0 : Int32)), .val (.int (1 : Int32)), .val (.int (0 : Int32)), .val (.int (0 : Int32))] [(.int (1 : Int32))])
                refine own_retN X85 hx (own_lvN X85 hlk (by decide) (by decide)) (t := .boolean) hret (by simp) (hb hby at_228) ?_
                exact ⟨rfl, N85⟩
              · skip
                show Go _ _ _ _ _ s₁ (mkF m 99 #[.val (.int p1), .val (.long p2), .second, .val (.int p3), .val (.int p4), .val (.int p5), .val (.long p6), .second, .val (.int q8), .val (.long q9), .second, .val (.int q11), .val (.int q12), .unset, .unset, .unset, .unset, .unset, .unset, .unset, .unset, .unset] [])
                refine own_go (fun t k => XS.iload X0.here hx rfl (hb hby at_99) rfl k) ?_
                show Go _ _ _ _ _ s₁ (mkF m 101 #[.val (.int p1), .val (.long p2), .second, .val (.int p3), .val (.int p4), .val (.int p5), .val (.long p6), .second, .val (.int q8), .val (.long q9), .second, .val (.int q11), .val (.int q12), .unset, .unset, .unset, .unset, .unset, .unset, .unset, .unset, .unset] [(.int q12)])
                refine own_go (fun t k => XS.iload X0.here hx rfl (hb hby at_101) rfl k) ?_
                show Go _ _ _ _ _ s₁ (mkF m 103 #[.val (.int p1), .val (.long p2), .second, .val (.int p3), .val (.int p4), .val (.int p5), .val (.long p6), .second, .val (.int q8), .val (.long q9), .second, .val (.int q11), .val (.int q12), .unset, .unset, .unset, .unset, .unset, .unset, .unset, .unset, .unset] [(.int p4), (.int q12)])
                refine own_icmpM (q12 = p4) X0 hx (hb hby at_103) (own_ne _ _) (by decide) (by decide) (pc' := 110) (fun hc86 => ?_) (fun hc86 => ?_)
                · skip
                  show Go _ _ _ _ _ s₁ (mkF m 110 #[.val (.int p1), .val (.long p2), .second, .val (.int p3), .val (.int p4), .val (.int p5), .val (.long p6), .second, .val (.int q8), .val (.long q9), .second, .val (.int q11), .val (.int q12), .unset, .unset, .unset, .unset, .unset, .unset, .unset, .unset, .unset] [])
                  refine own_go (fun t k => XS.iconst X0.here hx rfl (hb hby at_110) k) ?_
                  show Go _ _ _ _ _ s₁ (mkF m 111 #[.val (.int p1), .val (.long p2), .second, .val (.int p3), .val (.int p4), .val (.int p5), .val (.long p6), .second, .val (.int q8), .val (.long q9), .second, .val (.int q11), .val (.int q12), .unset, .unset, .unset, .unset, .unset, .unset, .unset, .unset, .unset] [(.int (0 : Int32))])
                  refine own_go (fun t k => XS.istore X0.here hx rfl (hb hby at_111) rfl (l' := #[.val (.int p1), .val (.long p2), .second, .val (.int p3), .val (.int p4), .val (.int p5), .val (.long p6), .second, .val (.int q8), .val (.long q9), .second, .val (.int q11), .val (.int q12), .val (.int (0 : Int32)), .unset, .unset, .unset, .unset, .unset, .unset, .unset, .unset]) rfl k) ?_
                  have hsym : ((lcmpW p2 q9) = (0 : Int32)) := (lw_eq p2 q9).mpr ((lw_eq q9 p2).mp hc64).symm
                  have hself : (lcmpW p2 p2) = (0 : Int32) := (lw_eq p2 p2).mpr rfl
                  show Go _ _ _ _ _ s₁ (mkF m 113 #[.val (.int p1), .val (.long p2), .second, .val (.int p3), .val (.int p4), .val (.int p5), .val (.long p6), .second, .val (.int q8), .val (.long q9), .second, .val (.int q11), .val (.int q12), .val (.int (0 : Int32)), .unset, .unset, .unset, .unset, .unset, .unset, .unset, .unset] [])
                  obtain ⟨T87, h87, X87, e87, E87, A87, D87, -, st87⟩ := newO X0 hx hZ hown (hw _ (List.mem_of_getElem? (i := 0) rfl)) (hw _ (List.mem_of_getElem? (i := 1) rfl)) (hw _ (List.mem_of_getElem? (i := 2) rfl)) e0 (g := (mkF m 113 #[.val (.int p1), .val (.long p2), .second, .val (.int p3), .val (.int p4), .val (.int p5), .val (.long p6), .second, .val (.int q8), .val (.long q9), .second, .val (.int q11), .val (.int q12), .val (.int (0 : Int32)), .unset, .unset, .unset, .unset, .unset, .unset, .unset, .unset] [])) rfl (hb hby at_113) (by decide) (by decide)
                  obtain ⟨b87, g87⟩ : ∃ z, z = h0.size := ⟨_, rfl⟩
                  rw [← g87] at A87 D87 st87
                  have ne_ca_b87 : ¬ ca = b87 := Nat.ne_of_lt (by rw [g87]; exact Ca.lt)
                  replace S_high := S_high.ext E87
                  replace S_cache := S_cache.ext E87
                  replace Ca := Ca.ext E87
                  have g_b87 : n0 ≤ b87 := by rw [g87]; exact hn0
                  have hn87 : n0 ≤ h87.size := Nat.le_trans hn0 E87.1
                  have F_df_b87 : Fld Z h87 b87 "com/example/term_weight_evolver/termweightevolver/constraints/Probe" "df" "I" (.int (0 : Int32)) := D87 (Or.inr (hw _ (List.mem_of_getElem? (i := 10) rfl))) (ty := .int) (by decide)
                  have F_cf_b87 : Fld Z h87 b87 "com/example/term_weight_evolver/termweightevolver/constraints/Probe" "cf" "J" (.long (0 : Int64)) := D87 (Or.inr (hw _ (List.mem_of_getElem? (i := 12) rfl))) (ty := .long) (by decide)
                  have F_tf_b87 : Fld Z h87 b87 "com/example/term_weight_evolver/termweightevolver/constraints/Probe" "tf" "I" (.int (0 : Int32)) := D87 (Or.inr (hw _ (List.mem_of_getElem? (i := 14) rfl))) (ty := .int) (by decide)
                  have F_dl_b87 : Fld Z h87 b87 "com/example/term_weight_evolver/termweightevolver/constraints/Probe" "dl" "I" (.int (0 : Int32)) := D87 (Or.inr (hw _ (List.mem_of_getElem? (i := 16) rfl))) (ty := .int) (by decide)
                  refine own_go (fun t k => st87 t k) ?_
                  show Go _ _ _ _ _ T87 (mkF m 116 #[.val (.int p1), .val (.long p2), .second, .val (.int p3), .val (.int p4), .val (.int p5), .val (.long p6), .second, .val (.int q8), .val (.long q9), .second, .val (.int q11), .val (.int q12), .val (.int (0 : Int32)), .unset, .unset, .unset, .unset, .unset, .unset, .unset, .unset] [(.ref b87)])
                  refine own_go (fun t k => XS.dup X87.here hx rfl (hb hby at_116) rfl rfl k) ?_
                  show Go _ _ _ _ _ T87 (mkF m 117 #[.val (.int p1), .val (.long p2), .second, .val (.int p3), .val (.int p4), .val (.int p5), .val (.long p6), .second, .val (.int q8), .val (.long q9), .second, .val (.int q11), .val (.int q12), .val (.int (0 : Int32)), .unset, .unset, .unset, .unset, .unset, .unset, .unset, .unset] [(.ref b87), (.ref b87)])
                  refine own_go (fun t k => XS.iloadN X87.here hx rfl (hb hby at_117) rfl k) ?_
                  show Go _ _ _ _ _ T87 (mkF m 118 #[.val (.int p1), .val (.long p2), .second, .val (.int p3), .val (.int p4), .val (.int p5), .val (.long p6), .second, .val (.int q8), .val (.long q9), .second, .val (.int q11), .val (.int q12), .val (.int (0 : Int32)), .unset, .unset, .unset, .unset, .unset, .unset, .unset, .unset] [(.int p1), (.ref b87), (.ref b87)])
                  refine own_go (fun t k => XS.lloadN X87.here hx rfl (hb hby at_118) rfl k) ?_
                  show Go _ _ _ _ _ T87 (mkF m 119 #[.val (.int p1), .val (.long p2), .second, .val (.int p3), .val (.int p4), .val (.int p5), .val (.long p6), .second, .val (.int q8), .val (.long q9), .second, .val (.int q11), .val (.int q12), .val (.int (0 : Int32)), .unset, .unset, .unset, .unset, .unset, .unset, .unset, .unset] [(.long p2), (.int p1), (.ref b87), (.ref b87)])
                  refine own_go (fun t k => XS.iloadN X87.here hx rfl (hb hby at_119) rfl k) ?_
                  show Go _ _ _ _ _ T87 (mkF m 120 #[.val (.int p1), .val (.long p2), .second, .val (.int p3), .val (.int p4), .val (.int p5), .val (.long p6), .second, .val (.int q8), .val (.long q9), .second, .val (.int q11), .val (.int q12), .val (.int (0 : Int32)), .unset, .unset, .unset, .unset, .unset, .unset, .unset, .unset] [(.int p3), (.long p2), (.int p1), (.ref b87), (.ref b87)])
                  refine own_go (fun t k => XS.iload X87.here hx rfl (hb hby at_120) rfl k) ?_
                  show Go _ _ _ _ _ T87 (mkF m 122 #[.val (.int p1), .val (.long p2), .second, .val (.int p3), .val (.int p4), .val (.int p5), .val (.long p6), .second, .val (.int q8), .val (.long q9), .second, .val (.int q11), .val (.int q12), .val (.int (0 : Int32)), .unset, .unset, .unset, .unset, .unset, .unset, .unset, .unset] [(.int p4), (.int p3), (.long p2), (.int p1), (.ref b87), (.ref b87)])
                  refine own_callI X87 hx hZ (y := (⟨"com/example/term_weight_evolver/termweightevolver/constraints/Probe", "<init>", "(IJII)V"⟩ : MethodName)) rfl hown (hw _ (List.mem_of_getElem? (i := 3) rfl)) (hw _ (List.mem_of_getElem? (i := 4) rfl)) (hw _ (List.mem_of_getElem? (i := 5) rfl)) (hw _ (List.mem_of_getElem? (i := 2) rfl)) (by decide) (rm1 l Z a0 hw [] b87 p1 p2 p3 p4 h87 n0 hn87 A87 g_b87 F_df_b87 F_cf_b87 F_tf_b87 F_dl_b87 ) e87 (b := b87) (by rw [hml]; rfl) (argsL := [(.int p1), (.long p2), (.int p3), (.int p4)]) (rest := [(.ref b87)]) rfl rfl (lenOf own_pd2 rfl) (W := 1) (Nat.le_of_eq rfl) (by decide) (by decide) (hb hby at_122) (by decide) (by decide) ?_
                  intro v88 T88 L88 X88 q88
                  obtain ⟨rfl, N88q, K88, Ex88, F88_df, F88_cf, F88_tf, F88_dl⟩ := q88
                  have N88 := Fr.app N0 N88q
                  replace S_high := own_sta_keep S_high K88 (allS ⟨_, A87⟩ all0)
                  replace S_cache := own_sta_keep S_cache K88 (allS ⟨_, A87⟩ all0)
                  replace Ca := Ca.keep K88 (ninS ne_ca_b87 nin0)
                  replace A87 := A87.keep K88
                  have hn88 : n0 ≤ T88.heap.size := Nat.le_trans hn87 K88.1
                  show Go _ _ _ _ _ T88 (mkF m 125 #[.val (.int p1), .val (.long p2), .second, .val (.int p3), .val (.int p4), .val (.int p5), .val (.long p6), .second, .val (.int q8), .val (.long q9), .second, .val (.int q11), .val (.int q12), .val (.int (0 : Int32)), .unset, .unset, .unset, .unset, .unset, .unset, .unset, .unset] [(.ref b87)])
                  refine own_go (fun t k => XS.astore X88.here hx rfl (hb hby at_125) rfl rfl (l' := #[.val (.int p1), .val (.long p2), .second, .val (.int p3), .val (.int p4), .val (.int p5), .val (.long p6), .second, .val (.int q8), .val (.long q9), .second, .val (.int q11), .val (.int q12), .val (.int (0 : Int32)), .val (.ref b87), .unset, .unset, .unset, .unset, .unset, .unset, .unset]) rfl k) ?_
                  show Go _ _ _ _ _ T88 (mkF m 127 #[.val (.int p1), .val (.long p2), .second, .val (.int p3), .val (.int p4), .val (.int p5), .val (.long p6), .second, .val (.int q8), .val (.long q9), .second, .val (.int q11), .val (.int q12), .val (.int (0 : Int32)), .val (.ref b87), .unset, .unset, .unset, .unset, .unset, .unset, .unset] [])
                  obtain ⟨T89, h89, X89, e89, E89, A89, D89, -, st89⟩ := newO X88 hx hZ hown (hw _ (List.mem_of_getElem? (i := 0) rfl)) (hw _ (List.mem_of_getElem? (i := 1) rfl)) (hw _ (List.mem_of_getElem? (i := 2) rfl)) rfl (g := (mkF m 127 #[.val (.int p1), .val (.long p2), .second, .val (.int p3), .val (.int p4), .val (.int p5), .val (.long p6), .second, .val (.int q8), .val (.long q9), .second, .val (.int q11), .val (.int q12), .val (.int (0 : Int32)), .val (.ref b87), .unset, .unset, .unset, .unset, .unset, .unset, .unset] [])) rfl (hb hby at_127) (by decide) (by decide)
                  obtain ⟨b89, g89⟩ : ∃ z, z = T88.heap.size := ⟨_, rfl⟩
                  rw [← g89] at A89 D89 st89
                  have ne_b87_b89 : ¬ b87 = b89 := Nat.ne_of_lt (by rw [g89]; exact Ex88.lt)
                  have ne_ca_b89 : ¬ ca = b89 := Nat.ne_of_lt (by rw [g89]; exact Ca.lt)
                  replace S_high := S_high.ext E89
                  replace S_cache := S_cache.ext E89
                  replace Ex88 := Ex88.ext E89
                  replace F88_df := F88_df.ext E89
                  replace F88_cf := F88_cf.ext E89
                  replace F88_tf := F88_tf.ext E89
                  replace F88_dl := F88_dl.ext E89
                  replace Ca := Ca.ext E89
                  have g_b89 : n0 ≤ b89 := by rw [g89]; exact hn88
                  have hn89 : n0 ≤ h89.size := Nat.le_trans hn88 E89.1
                  have F_df_b89 : Fld Z h89 b89 "com/example/term_weight_evolver/termweightevolver/constraints/Probe" "df" "I" (.int (0 : Int32)) := D89 (Or.inr (hw _ (List.mem_of_getElem? (i := 10) rfl))) (ty := .int) (by decide)
                  have F_cf_b89 : Fld Z h89 b89 "com/example/term_weight_evolver/termweightevolver/constraints/Probe" "cf" "J" (.long (0 : Int64)) := D89 (Or.inr (hw _ (List.mem_of_getElem? (i := 12) rfl))) (ty := .long) (by decide)
                  have F_tf_b89 : Fld Z h89 b89 "com/example/term_weight_evolver/termweightevolver/constraints/Probe" "tf" "I" (.int (0 : Int32)) := D89 (Or.inr (hw _ (List.mem_of_getElem? (i := 14) rfl))) (ty := .int) (by decide)
                  have F_dl_b89 : Fld Z h89 b89 "com/example/term_weight_evolver/termweightevolver/constraints/Probe" "dl" "I" (.int (0 : Int32)) := D89 (Or.inr (hw _ (List.mem_of_getElem? (i := 16) rfl))) (ty := .int) (by decide)
                  refine own_go (fun t k => st89 t k) ?_
                  show Go _ _ _ _ _ T89 (mkF m 130 #[.val (.int p1), .val (.long p2), .second, .val (.int p3), .val (.int p4), .val (.int p5), .val (.long p6), .second, .val (.int q8), .val (.long q9), .second, .val (.int q11), .val (.int q12), .val (.int (0 : Int32)), .val (.ref b87), .unset, .unset, .unset, .unset, .unset, .unset, .unset] [(.ref b89)])
                  refine own_go (fun t k => XS.dup X89.here hx rfl (hb hby at_130) rfl rfl k) ?_
                  show Go _ _ _ _ _ T89 (mkF m 131 #[.val (.int p1), .val (.long p2), .second, .val (.int p3), .val (.int p4), .val (.int p5), .val (.long p6), .second, .val (.int q8), .val (.long q9), .second, .val (.int q11), .val (.int q12), .val (.int (0 : Int32)), .val (.ref b87), .unset, .unset, .unset, .unset, .unset, .unset, .unset] [(.ref b89), (.ref b89)])
                  refine own_go (fun t k => XS.iload X89.here hx rfl (hb hby at_131) rfl k) ?_
                  show Go _ _ _ _ _ T89 (mkF m 133 #[.val (.int p1), .val (.long p2), .second, .val (.int p3), .val (.int p4), .val (.int p5), .val (.long p6), .second, .val (.int q8), .val (.long q9), .second, .val (.int q11), .val (.int q12), .val (.int (0 : Int32)), .val (.ref b87), .unset, .unset, .unset, .unset, .unset, .unset, .unset] [(.int q8), (.ref b89), (.ref b89)])
                  refine own_go (fun t k => XS.lload X89.here hx rfl (hb hby at_133) rfl k) ?_
                  show Go _ _ _ _ _ T89 (mkF m 135 #[.val (.int p1), .val (.long p2), .second, .val (.int p3), .val (.int p4), .val (.int p5), .val (.long p6), .second, .val (.int q8), .val (.long q9), .second, .val (.int q11), .val (.int q12), .val (.int (0 : Int32)), .val (.ref b87), .unset, .unset, .unset, .unset, .unset, .unset, .unset] [(.long q9), (.int q8), (.ref b89), (.ref b89)])
                  refine own_go (fun t k => XS.iload X89.here hx rfl (hb hby at_135) rfl k) ?_
                  show Go _ _ _ _ _ T89 (mkF m 137 #[.val (.int p1), .val (.long p2), .second, .val (.int p3), .val (.int p4), .val (.int p5), .val (.long p6), .second, .val (.int q8), .val (.long q9), .second, .val (.int q11), .val (.int q12), .val (.int (0 : Int32)), .val (.ref b87), .unset, .unset, .unset, .unset, .unset, .unset, .unset] [(.int q11), (.long q9), (.int q8), (.ref b89), (.ref b89)])
                  refine own_go (fun t k => XS.iload X89.here hx rfl (hb hby at_137) rfl k) ?_
                  show Go _ _ _ _ _ T89 (mkF m 139 #[.val (.int p1), .val (.long p2), .second, .val (.int p3), .val (.int p4), .val (.int p5), .val (.long p6), .second, .val (.int q8), .val (.long q9), .second, .val (.int q11), .val (.int q12), .val (.int (0 : Int32)), .val (.ref b87), .unset, .unset, .unset, .unset, .unset, .unset, .unset] [(.int q12), (.int q11), (.long q9), (.int q8), (.ref b89), (.ref b89)])
                  refine own_callI X89 hx hZ (y := (⟨"com/example/term_weight_evolver/termweightevolver/constraints/Probe", "<init>", "(IJII)V"⟩ : MethodName)) rfl hown (hw _ (List.mem_of_getElem? (i := 3) rfl)) (hw _ (List.mem_of_getElem? (i := 4) rfl)) (hw _ (List.mem_of_getElem? (i := 5) rfl)) (hw _ (List.mem_of_getElem? (i := 2) rfl)) (by decide) (rm1 l Z a0 hw [] b89 q8 q9 q11 q12 h89 n0 hn89 A89 g_b89 F_df_b89 F_cf_b89 F_tf_b89 F_dl_b89 ) e89 (b := b89) (by rw [hml]; rfl) (argsL := [(.int q8), (.long q9), (.int q11), (.int q12)]) (rest := [(.ref b89)]) rfl rfl (lenOf own_pd2 rfl) (W := 1) (Nat.le_of_eq rfl) (by decide) (by decide) (hb hby at_139) (by decide) (by decide) ?_
                  intro v90 T90 L90 X90 q90
                  obtain ⟨rfl, N90q, K90, Ex90, F90_df, F90_cf, F90_tf, F90_dl⟩ := q90
                  have N90 := Fr.app N88 N90q
                  replace S_high := own_sta_keep S_high K90 (allS ⟨_, A89⟩ all0)
                  replace S_cache := own_sta_keep S_cache K90 (allS ⟨_, A89⟩ all0)
                  replace F88_df := F88_df.keep K90 (ninS ne_b87_b89 nin0)
                  replace F88_cf := F88_cf.keep K90 (ninS ne_b87_b89 nin0)
                  replace F88_tf := F88_tf.keep K90 (ninS ne_b87_b89 nin0)
                  replace F88_dl := F88_dl.keep K90 (ninS ne_b87_b89 nin0)
                  replace Ca := Ca.keep K90 (ninS ne_ca_b89 nin0)
                  replace Ex88 := Ex88.keep K90
                  replace A89 := A89.keep K90
                  have hn90 : n0 ≤ T90.heap.size := Nat.le_trans hn89 K90.1
                  show Go _ _ _ _ _ T90 (mkF m 142 #[.val (.int p1), .val (.long p2), .second, .val (.int p3), .val (.int p4), .val (.int p5), .val (.long p6), .second, .val (.int q8), .val (.long q9), .second, .val (.int q11), .val (.int q12), .val (.int (0 : Int32)), .val (.ref b87), .unset, .unset, .unset, .unset, .unset, .unset, .unset] [(.ref b89)])
                  refine own_go (fun t k => XS.astore X90.here hx rfl (hb hby at_142) rfl rfl (l' := #[.val (.int p1), .val (.long p2), .second, .val (.int p3), .val (.int p4), .val (.int p5), .val (.long p6), .second, .val (.int q8), .val (.long q9), .second, .val (.int q11), .val (.int q12), .val (.int (0 : Int32)), .val (.ref b87), .val (.ref b89), .unset, .unset, .unset, .unset, .unset, .unset]) rfl k) ?_
                  show Go _ _ _ _ _ T90 (mkF m 144 #[.val (.int p1), .val (.long p2), .second, .val (.int p3), .val (.int p4), .val (.int p5), .val (.long p6), .second, .val (.int q8), .val (.long q9), .second, .val (.int q11), .val (.int q12), .val (.int (0 : Int32)), .val (.ref b87), .val (.ref b89), .unset, .unset, .unset, .unset, .unset, .unset] [])
                  refine own_go (fun t k => XS.iloadN X90.here hx rfl (hb hby at_144) rfl k) ?_
                  show Go _ _ _ _ _ T90 (mkF m 145 #[.val (.int p1), .val (.long p2), .second, .val (.int p3), .val (.int p4), .val (.int p5), .val (.long p6), .second, .val (.int q8), .val (.long q9), .second, .val (.int q11), .val (.int q12), .val (.int (0 : Int32)), .val (.ref b87), .val (.ref b89), .unset, .unset, .unset, .unset, .unset, .unset] [(.int p1)])
                  refine own_callS X90 hx hZ (y := (⟨"java/lang/Integer", "valueOf", "(I)Ljava/lang/Integer;"⟩ : MethodName)) hown (hw _ (List.mem_of_getElem? (i := 17) rfl)) (hw _ (List.mem_of_getElem? (i := 18) rfl)) (hw _ (List.mem_of_getElem? (i := 19) rfl)) (hw _ (List.mem_of_getElem? (i := 20) rfl)) (by decide) (rm3 l Z a0 hw [] p1 ca T90.heap n0 hn90 S_high S_cache Ca) rfl (by rw [hml]; rfl) (argsL := [(.int p1)]) (rest := []) rfl rfl (lenOf own_pd3 rfl) (W := 0) (Nat.le_of_eq rfl) (by decide) (by decide) (hb hby at_145) (by decide) (by decide) ?_
                  intro v91 T91 L91 X91 q91
                  obtain ⟨b91, rfl, N91q, K91, Ex91⟩ := q91
                  have N91 := Fr.app N90 N91q
                  replace S_high := own_sta_keep S_high K91 all0
                  replace S_cache := own_sta_keep S_cache K91 all0
                  replace F88_df := F88_df.keep K91 nin0
                  replace F88_cf := F88_cf.keep K91 nin0
                  replace F88_tf := F88_tf.keep K91 nin0
                  replace F88_dl := F88_dl.keep K91 nin0
                  replace F90_df := F90_df.keep K91 nin0
                  replace F90_cf := F90_cf.keep K91 nin0
                  replace F90_tf := F90_tf.keep K91 nin0
                  replace F90_dl := F90_dl.keep K91 nin0
                  replace Ca := Ca.keep K91 nin0
                  replace Ex88 := Ex88.keep K91
                  replace Ex90 := Ex90.keep K91
                  have hn91 : n0 ≤ T91.heap.size := Nat.le_trans hn90 K91.1
                  show Go _ _ _ _ _ T91 (mkF m 148 #[.val (.int p1), .val (.long p2), .second, .val (.int p3), .val (.int p4), .val (.int p5), .val (.long p6), .second, .val (.int q8), .val (.long q9), .second, .val (.int q11), .val (.int q12), .val (.int (0 : Int32)), .val (.ref b87), .val (.ref b89), .unset, .unset, .unset, .unset, .unset, .unset] [(.ref b91)])
                  refine own_go (fun t k => XS.astore X91.here hx rfl (hb hby at_148) rfl rfl (l' := #[.val (.int p1), .val (.long p2), .second, .val (.int p3), .val (.int p4), .val (.int p5), .val (.long p6), .second, .val (.int q8), .val (.long q9), .second, .val (.int q11), .val (.int q12), .val (.int (0 : Int32)), .val (.ref b87), .val (.ref b89), .val (.ref b91), .unset, .unset, .unset, .unset, .unset]) rfl k) ?_
                  show Go _ _ _ _ _ T91 (mkF m 150 #[.val (.int p1), .val (.long p2), .second, .val (.int p3), .val (.int p4), .val (.int p5), .val (.long p6), .second, .val (.int q8), .val (.long q9), .second, .val (.int q11), .val (.int q12), .val (.int (0 : Int32)), .val (.ref b87), .val (.ref b89), .val (.ref b91), .unset, .unset, .unset, .unset, .unset] [])
                  refine own_go (fun t k => XS.aload X91.here hx rfl (hb hby at_150) rfl rfl k) ?_
                  show Go _ _ _ _ _ T91 (mkF m 152 #[.val (.int p1), .val (.long p2), .second, .val (.int p3), .val (.int p4), .val (.int p5), .val (.long p6), .second, .val (.int q8), .val (.long q9), .second, .val (.int q11), .val (.int q12), .val (.int (0 : Int32)), .val (.ref b87), .val (.ref b89), .val (.ref b91), .unset, .unset, .unset, .unset, .unset] [(.ref b87)])
                  refine own_go (fun t k => XS.aload X91.here hx rfl (hb hby at_152) rfl rfl k) ?_
                  show Go _ _ _ _ _ T91 (mkF m 154 #[.val (.int p1), .val (.long p2), .second, .val (.int p3), .val (.int p4), .val (.int p5), .val (.long p6), .second, .val (.int q8), .val (.long q9), .second, .val (.int q11), .val (.int q12), .val (.int (0 : Int32)), .val (.ref b87), .val (.ref b89), .val (.ref b91), .unset, .unset, .unset, .unset, .unset] [(.ref b89), (.ref b87)])
                  refine own_callV X91 hx hZ (y := (⟨"com/example/term_weight_evolver/termweightevolver/constraints/Probe", "equals", "(Ljava/lang/Object;)Z"⟩ : MethodName)) hown (hw _ (List.mem_of_getElem? (i := 24) rfl)) (hw _ (List.mem_of_getElem? (i := 25) rfl)) (hw _ (List.mem_of_getElem? (i := 27) rfl)) (hw _ (List.mem_of_getElem? (i := 26) rfl)) (hw _ (List.mem_of_getElem? (i := 28) rfl)) (hw _ (List.mem_of_getElem? (i := 2) rfl)) (by decide) (rm_eq_same l Z a0 hw [] b87 b89 p1 p2 p3 p4 q8 q9 q11 q12 (0 : Int32) T91.heap n0 hn91 Ex90 F88_df F88_cf F88_tf F88_dl F90_df F90_cf F90_tf F90_dl (by rw [own_f_rm_eq_same, if_pos (hc53).symm, if_pos hsym, if_pos (hc75).symm, if_neg (fun q => hc86 q.symm)]; try first | rfl | decide)) rfl Ex88 (by rw [hml]; rfl) (argsL := [(.ref b89)]) (rest := []) rfl rfl (lenOf own_pd4 rfl) (W := 0) (Nat.le_of_eq rfl) (by decide) (by decide) (hb hby at_154) (by decide) (by decide) ?_
                  intro v92 T92 L92 X92 q92
                  obtain ⟨rfl, N92q, e92⟩ := q92
                  have N92 := Fr.app N91 N92q
                  show Go _ _ _ _ _ T92 (mkF m 157 #[.val (.int p1), .val (.long p2), .second, .val (.int p3), .val (.int p4), .val (.int p5), .val (.long p6), .second, .val (.int q8), .val (.long q9), .second, .val (.int q11), .val (.int q12), .val (.int (0 : Int32)), .val (.ref b87), .val (.ref b89), .val (.ref b91), .unset, .unset, .unset, .unset, .unset] [(.int (0 : Int32))])
                  refine own_go (fun t k => XS.istore X92.here hx rfl (hb hby at_157) rfl (l' := #[.val (.int p1), .val (.long p2), .second, .val (.int p3), .val (.int p4), .val (.int p5), .val (.long p6), .second, .val (.int q8), .val (.long q9), .second, .val (.int q11), .val (.int q12), .val (.int (0 : Int32)), .val (.ref b87), .val (.ref b89), .val (.ref b91), .val (.int (0 : Int32)), .unset, .unset, .unset, .unset]) rfl k) ?_
                  show Go _ _ _ _ _ T92 (mkF m 159 #[.val (.int p1), .val (.long p2), .second, .val (.int p3), .val (.int p4), .val (.int p5), .val (.long p6), .second, .val (.int q8), .val (.long q9), .second, .val (.int q11), .val (.int q12), .val (.int (0 : Int32)), .val (.ref b87), .val (.ref b89), .val (.ref b91), .val (.int (0 : Int32)), .unset, .unset, .unset, .unset] [])
                  refine own_go (fun t k => XS.aload X92.here hx rfl (hb hby at_159) rfl rfl k) ?_
                  show Go _ _ _ _ _ T92 (mkF m 161 #[.val (.int p1), .val (.long p2), .second, .val (.int p3), .val (.int p4), .val (.int p5), .val (.long p6), .second, .val (.int q8), .val (.long q9), .second, .val (.int q11), .val (.int q12), .val (.int (0 : Int32)), .val (.ref b87), .val (.ref b89), .val (.ref b91), .val (.int (0 : Int32)), .unset, .unset, .unset, .unset] [(.ref b89)])
                  refine own_go (fun t k => XS.aload X92.here hx rfl (hb hby at_161) rfl rfl k) ?_
                  show Go _ _ _ _ _ T92 (mkF m 163 #[.val (.int p1), .val (.long p2), .second, .val (.int p3), .val (.int p4), .val (.int p5), .val (.long p6), .second, .val (.int q8), .val (.long q9), .second, .val (.int q11), .val (.int q12), .val (.int (0 : Int32)), .val (.ref b87), .val (.ref b89), .val (.ref b91), .val (.int (0 : Int32)), .unset, .unset, .unset, .unset] [(.ref b87), (.ref b89)])
                  refine own_callV X92 hx hZ (y := (⟨"com/example/term_weight_evolver/termweightevolver/constraints/Probe", "equals", "(Ljava/lang/Object;)Z"⟩ : MethodName)) hown (hw _ (List.mem_of_getElem? (i := 24) rfl)) (hw _ (List.mem_of_getElem? (i := 25) rfl)) (hw _ (List.mem_of_getElem? (i := 27) rfl)) (hw _ (List.mem_of_getElem? (i := 26) rfl)) (hw _ (List.mem_of_getElem? (i := 28) rfl)) (hw _ (List.mem_of_getElem? (i := 2) rfl)) (by decide) (rm_eq_same l Z a0 hw [] b89 b87 q8 q9 q11 q12 p1 p2 p3 p4 (0 : Int32) T91.heap n0 hn91 Ex88 F90_df F90_cf F90_tf F90_dl F88_df F88_cf F88_tf F88_dl (by rw [own_f_rm_eq_same, if_pos hc53, if_pos hc64, if_pos hc75, if_neg hc86]; try first | rfl | decide)) e92 Ex90 (by rw [hml]; rfl) (argsL := [(.ref b87)]) (rest := []) rfl rfl (lenOf own_pd4 rfl) (W := 0) (Nat.le_of_eq rfl) (by decide) (by decide) (hb hby at_163) (by decide) (by decide) ?_
                  intro v93 T93 L93 X93 q93
                  obtain ⟨rfl, N93q, e93⟩ := q93
                  have N93 := Fr.app N92 N93q
                  show Go _ _ _ _ _ T93 (mkF m 166 #[.val (.int p1), .val (.long p2), .second, .val (.int p3), .val (.int p4), .val (.int p5), .val (.long p6), .second, .val (.int q8), .val (.long q9), .second, .val (.int q11), .val (.int q12), .val (.int (0 : Int32)), .val (.ref b87), .val (.ref b89), .val (.ref b91), .val (.int (0 : Int32)), .unset, .unset, .unset, .unset] [(.int (0 : Int32))])
                  refine own_go (fun t k => XS.istore X93.here hx rfl (hb hby at_166) rfl (l' := #[.val (.int p1), .val (.long p2), .second, .val (.int p3), .val (.int p4), .val (.int p5), .val (.long p6), .second, .val (.int q8), .val (.long q9), .second, .val (.int q11), .val (.int q12), .val (.int (0 : Int32)), .val (.ref b87), .val (.ref b89), .val (.ref b91), .val (.int (0 : Int32)), .val (.int (0 : Int32)), .unset, .unset, .unset]) rfl k) ?_
                  show Go _ _ _ _ _ T93 (mkF m 168 #[.val (.int p1), .val (.long p2), .second, .val (.int p3), .val (.int p4), .val (.int p5), .val (.long p6), .second, .val (.int q8), .val (.long q9), .second, .val (.int q11), .val (.int q12), .val (.int (0 : Int32)), .val (.ref b87), .val (.ref b89), .val (.ref b91), .val (.int (0 : Int32)), .val (.int (0 : Int32)), .unset, .unset, .unset] [])
                  refine own_go (fun t k => XS.aload X93.here hx rfl (hb hby at_168) rfl rfl k) ?_
                  show Go _ _ _ _ _ T93 (mkF m 170 #[.val (.int p1), .val (.long p2), .second, .val (.int p3), .val (.int p4), .val (.int p5), .val (.long p6), .second, .val (.int q8), .val (.long q9), .second, .val (.int q11), .val (.int q12), .val (.int (0 : Int32)), .val (.ref b87), .val (.ref b89), .val (.ref b91), .val (.int (0 : Int32)), .val (.int (0 : Int32)), .unset, .unset, .unset] [(.ref b87)])
                  refine own_go (fun t k => XS.aload X93.here hx rfl (hb hby at_170) rfl rfl k) ?_
                  show Go _ _ _ _ _ T93 (mkF m 172 #[.val (.int p1), .val (.long p2), .second, .val (.int p3), .val (.int p4), .val (.int p5), .val (.long p6), .second, .val (.int q8), .val (.long q9), .second, .val (.int q11), .val (.int q12), .val (.int (0 : Int32)), .val (.ref b87), .val (.ref b89), .val (.ref b91), .val (.int (0 : Int32)), .val (.int (0 : Int32)), .unset, .unset, .unset] [(.ref b87), (.ref b87)])
                  refine own_callV X93 hx hZ (y := (⟨"com/example/term_weight_evolver/termweightevolver/constraints/Probe", "equals", "(Ljava/lang/Object;)Z"⟩ : MethodName)) hown (hw _ (List.mem_of_getElem? (i := 24) rfl)) (hw _ (List.mem_of_getElem? (i := 25) rfl)) (hw _ (List.mem_of_getElem? (i := 27) rfl)) (hw _ (List.mem_of_getElem? (i := 26) rfl)) (hw _ (List.mem_of_getElem? (i := 28) rfl)) (hw _ (List.mem_of_getElem? (i := 2) rfl)) (by decide) (rm_eq_same l Z a0 hw [] b87 b87 p1 p2 p3 p4 p1 p2 p3 p4 (1 : Int32) T91.heap n0 hn91 Ex88 F88_df F88_cf F88_tf F88_dl F88_df F88_cf F88_tf F88_dl (by rw [own_f_rm_eq_same, if_pos (show p1 = p1 from rfl), if_pos hself, if_pos (show p3 = p3 from rfl), if_pos (show p4 = p4 from rfl)]; try first | rfl | decide)) e93 Ex88 (by rw [hml]; rfl) (argsL := [(.ref b87)]) (rest := []) rfl rfl (lenOf own_pd4 rfl) (W := 0) (Nat.le_of_eq rfl) (by decide) (by decide) (hb hby at_172) (by decide) (by decide) ?_
                  intro v94 T94 L94 X94 q94
                  obtain ⟨rfl, N94q, e94⟩ := q94
                  have N94 := Fr.app N93 N94q
                  show Go _ _ _ _ _ T94 (mkF m 175 #[.val (.int p1), .val (.long p2), .second, .val (.int p3), .val (.int p4), .val (.int p5), .val (.long p6), .second, .val (.int q8), .val (.long q9), .second, .val (.int q11), .val (.int q12), .val (.int (0 : Int32)), .val (.ref b87), .val (.ref b89), .val (.ref b91), .val (.int (0 : Int32)), .val (.int (0 : Int32)), .unset, .unset, .unset] [(.int (1 : Int32))])
                  refine own_go (fun t k => XS.istore X94.here hx rfl (hb hby at_175) rfl (l' := #[.val (.int p1), .val (.long p2), .second, .val (.int p3), .val (.int p4), .val (.int p5), .val (.long p6), .second, .val (.int q8), .val (.long q9), .second, .val (.int q11), .val (.int q12), .val (.int (0 : Int32)), .val (.ref b87), .val (.ref b89), .val (.ref b91), .val (.int (0 : Int32)), .val (.int (0 : Int32)), .val (.int (1 : Int32)), .unset, .unset]) rfl k) ?_
                  show Go _ _ _ _ _ T94 (mkF m 177 #[.val (.int p1), .val (.long p2), .second, .val (.int p3), .val (.int p4), .val (.int p5), .val (.long p6), .second, .val (.int q8), .val (.long q9), .second, .val (.int q11), .val (.int q12), .val (.int (0 : Int32)), .val (.ref b87), .val (.ref b89), .val (.ref b91), .val (.int (0 : Int32)), .val (.int (0 : Int32)), .val (.int (1 : Int32)), .unset, .unset] [])
                  refine own_go (fun t k => XS.aload X94.here hx rfl (hb hby at_177) rfl rfl k) ?_
                  show Go _ _ _ _ _ T94 (mkF m 179 #[.val (.int p1), .val (.long p2), .second, .val (.int p3), .val (.int p4), .val (.int p5), .val (.long p6), .second, .val (.int q8), .val (.long q9), .second, .val (.int q11), .val (.int q12), .val (.int (0 : Int32)), .val (.ref b87), .val (.ref b89), .val (.ref b91), .val (.int (0 : Int32)), .val (.int (0 : Int32)), .val (.int (1 : Int32)), .unset, .unset] [(.ref b87)])
                  refine own_go (fun t k => XS.aconstNull X94.here hx rfl (hb hby at_179) k) ?_
                  show Go _ _ _ _ _ T94 (mkF m 180 #[.val (.int p1), .val (.long p2), .second, .val (.int p3), .val (.int p4), .val (.int p5), .val (.long p6), .second, .val (.int q8), .val (.long q9), .second, .val (.int q11), .val (.int q12), .val (.int (0 : Int32)), .val (.ref b87), .val (.ref b89), .val (.ref b91), .val (.int (0 : Int32)), .val (.int (0 : Int32)), .val (.int (1 : Int32)), .unset, .unset] [.null, (.ref b87)])
                  refine own_callV X94 hx hZ (y := (⟨"com/example/term_weight_evolver/termweightevolver/constraints/Probe", "equals", "(Ljava/lang/Object;)Z"⟩ : MethodName)) hown (hw _ (List.mem_of_getElem? (i := 24) rfl)) (hw _ (List.mem_of_getElem? (i := 25) rfl)) (hw _ (List.mem_of_getElem? (i := 27) rfl)) (hw _ (List.mem_of_getElem? (i := 26) rfl)) (hw _ (List.mem_of_getElem? (i := 28) rfl)) (hw _ (List.mem_of_getElem? (i := 2) rfl)) (by decide) (rm_eq_null l Z a0 hw [] b87 (0 : Int32) T91.heap n0 hn91  (by rw [own_f_rm_eq_null]; try first | rfl | decide)) e94 Ex88 (by rw [hml]; rfl) (argsL := [.null]) (rest := []) rfl rfl (lenOf own_pd4 rfl) (W := 0) (Nat.le_of_eq rfl) (by decide) (by decide) (hb hby at_180) (by decide) (by decide) ?_
                  intro v95 T95 L95 X95 q95
                  obtain ⟨rfl, N95q, e95⟩ := q95
                  have N95 := Fr.app N94 N95q
                  show Go _ _ _ _ _ T95 (mkF m 183 #[.val (.int p1), .val (.long p2), .second, .val (.int p3), .val (.int p4), .val (.int p5), .val (.long p6), .second, .val (.int q8), .val (.long q9), .second, .val (.int q11), .val (.int q12), .val (.int (0 : Int32)), .val (.ref b87), .val (.ref b89), .val (.ref b91), .val (.int (0 : Int32)), .val (.int (0 : Int32)), .val (.int (1 : Int32)), .unset, .unset] [(.int (0 : Int32))])
                  refine own_go (fun t k => XS.istore X95.here hx rfl (hb hby at_183) rfl (l' := #[.val (.int p1), .val (.long p2), .second, .val (.int p3), .val (.int p4), .val (.int p5), .val (.long p6), .second, .val (.int q8), .val (.long q9), .second, .val (.int q11), .val (.int q12), .val (.int (0 : Int32)), .val (.ref b87), .val (.ref b89), .val (.ref b91), .val (.int (0 : Int32)), .val (.int (0 : Int32)), .val (.int (1 : Int32)), .val (.int (0 : Int32)), .unset]) rfl k) ?_
                  show Go _ _ _ _ _ T95 (mkF m 185 #[.val (.int p1), .val (.long p2), .second, .val (.int p3), .val (.int p4), .val (.int p5), .val (.long p6), .second, .val (.int q8), .val (.long q9), .second, .val (.int q11), .val (.int q12), .val (.int (0 : Int32)), .val (.ref b87), .val (.ref b89), .val (.ref b91), .val (.int (0 : Int32)), .val (.int (0 : Int32)), .val (.int (1 : Int32)), .val (.int (0 : Int32)), .unset] [])
                  refine own_go (fun t k => XS.aload X95.here hx rfl (hb hby at_185) rfl rfl k) ?_
                  show Go _ _ _ _ _ T95 (mkF m 187 #[.val (.int p1), .val (.long p2), .second, .val (.int p3), .val (.int p4), .val (.int p5), .val (.long p6), .second, .val (.int q8), .val (.long q9), .second, .val (.int q11), .val (.int q12), .val (.int (0 : Int32)), .val (.ref b87), .val (.ref b89), .val (.ref b91), .val (.int (0 : Int32)), .val (.int (0 : Int32)), .val (.int (1 : Int32)), .val (.int (0 : Int32)), .unset] [(.ref b87)])
                  refine own_go (fun t k => XS.aload X95.here hx rfl (hb hby at_187) rfl rfl k) ?_
                  show Go _ _ _ _ _ T95 (mkF m 189 #[.val (.int p1), .val (.long p2), .second, .val (.int p3), .val (.int p4), .val (.int p5), .val (.long p6), .second, .val (.int q8), .val (.long q9), .second, .val (.int q11), .val (.int q12), .val (.int (0 : Int32)), .val (.ref b87), .val (.ref b89), .val (.ref b91), .val (.int (0 : Int32)), .val (.int (0 : Int32)), .val (.int (1 : Int32)), .val (.int (0 : Int32)), .unset] [(.ref b91), (.ref b87)])
                  refine own_callV X95 hx hZ (y := (⟨"com/example/term_weight_evolver/termweightevolver/constraints/Probe", "equals", "(Ljava/lang/Object;)Z"⟩ : MethodName)) hown (hw _ (List.mem_of_getElem? (i := 24) rfl)) (hw _ (List.mem_of_getElem? (i := 25) rfl)) (hw _ (List.mem_of_getElem? (i := 27) rfl)) (hw _ (List.mem_of_getElem? (i := 26) rfl)) (hw _ (List.mem_of_getElem? (i := 28) rfl)) (hw _ (List.mem_of_getElem? (i := 2) rfl)) (by decide) (rm_eq_other l Z a0 hw [] b87 b91 (0 : Int32) T91.heap n0 hn91 Ex91 (by rw [own_f_rm_eq_other]; try first | rfl | decide)) e95 Ex88 (by rw [hml]; rfl) (argsL := [(.ref b91)]) (rest := []) rfl rfl (lenOf own_pd4 rfl) (W := 0) (Nat.le_of_eq rfl) (by decide) (by decide) (hb hby at_189) (by decide) (by decide) ?_
                  intro v96 T96 L96 X96 q96
                  obtain ⟨rfl, N96q, e96⟩ := q96
                  have N96 := Fr.app N95 N96q
                  show Go _ _ _ _ _ T96 (mkF m 192 #[.val (.int p1), .val (.long p2), .second, .val (.int p3), .val (.int p4), .val (.int p5), .val (.long p6), .second, .val (.int q8), .val (.long q9), .second, .val (.int q11), .val (.int q12), .val (.int (0 : Int32)), .val (.ref b87), .val (.ref b89), .val (.ref b91), .val (.int (0 : Int32)), .val (.int (0 : Int32)), .val (.int (1 : Int32)), .val (.int (0 : Int32)), .unset] [(.int (0 : Int32))])
                  refine own_go (fun t k => XS.istore X96.here hx rfl (hb hby at_192) rfl (l' := #[.val (.int p1), .val (.long p2), .second, .val (.int p3), .val (.int p4), .val (.int p5), .val (.long p6), .second, .val (.int q8), .val (.long q9), .second, .val (.int q11), .val (.int q12), .val (.int (0 : Int32)), .val (.ref b87), .val (.ref b89), .val (.ref b91), .val (.int (0 : Int32)), .val (.int (0 : Int32)), .val (.int (1 : Int32)), .val (.int (0 : Int32)), .val (.int (0 : Int32))]) rfl k) ?_
                  show Go _ _ _ _ _ T96 (mkF m 194 #[.val (.int p1), .val (.long p2), .second, .val (.int p3), .val (.int p4), .val (.int p5), .val (.long p6), .second, .val (.int q8), .val (.long q9), .second, .val (.int q11), .val (.int q12), .val (.int (0 : Int32)), .val (.ref b87), .val (.ref b89), .val (.ref b91), .val (.int (0 : Int32)), .val (.int (0 : Int32)), .val (.int (1 : Int32)), .val (.int (0 : Int32)), .val (.int (0 : Int32))] [])
                  refine own_go (fun t k => XS.iload X96.here hx rfl (hb hby at_194) rfl k) ?_
                  show Go _ _ _ _ _ T96 (mkF m 196 #[.val (.int p1), .val (.long p2), .second, .val (.int p3), .val (.int p4), .val (.int p5), .val (.long p6), .second, .val (.int q8), .val (.long q9), .second, .val (.int q11), .val (.int q12), .val (.int (0 : Int32)), .val (.ref b87), .val (.ref b89), .val (.ref b91), .val (.int (0 : Int32)), .val (.int (0 : Int32)), .val (.int (1 : Int32)), .val (.int (0 : Int32)), .val (.int (0 : Int32))] [(.int (0 : Int32))])
                  refine own_go (fun t k => XS.iload X96.here hx rfl (hb hby at_196) rfl k) ?_
                  show Go _ _ _ _ _ T96 (mkF m 198 #[.val (.int p1), .val (.long p2), .second, .val (.int p3), .val (.int p4), .val (.int p5), .val (.long p6), .second, .val (.int q8), .val (.long q9), .second, .val (.int q11), .val (.int q12), .val (.int (0 : Int32)), .val (.ref b87), .val (.ref b89), .val (.ref b91), .val (.int (0 : Int32)), .val (.int (0 : Int32)), .val (.int (1 : Int32)), .val (.int (0 : Int32)), .val (.int (0 : Int32))] [(.int (0 : Int32)), (.int (0 : Int32))])
                  refine own_go (fun t k => XS.icmpNo X96.here hx rfl (hb hby at_198) rfl (by decide) k) ?_
                  show Go _ _ _ _ _ T96 (mkF m 201 #[.val (.int p1), .val (.long p2), .second, .val (.int p3), .val (.int p4), .val (.int p5), .val (.long p6), .second, .val (.int q8), .val (.long q9), .second, .val (.int q11), .val (.int q12), .val (.int (0 : Int32)), .val (.ref b87), .val (.ref b89), .val (.ref b91), .val (.int (0 : Int32)), .val (.int (0 : Int32)), .val (.int (1 : Int32)), .val (.int (0 : Int32)), .val (.int (0 : Int32))] [])
                  refine own_go (fun t k => XS.iload X96.here hx rfl (hb hby at_201) rfl k) ?_
                  show Go _ _ _ _ _ T96 (mkF m 203 #[.val (.int p1), .val (.long p2), .second, .val (.int p3), .val (.int p4), .val (.int p5), .val (.long p6), .second, .val (.int q8), .val (.long q9), .second, .val (.int q11), .val (.int q12), .val (.int (0 : Int32)), .val (.ref b87), .val (.ref b89), .val (.ref b91), .val (.int (0 : Int32)), .val (.int (0 : Int32)), .val (.int (1 : Int32)), .val (.int (0 : Int32)), .val (.int (0 : Int32))] [(.int (0 : Int32))])
                  refine own_go (fun t k => XS.iload X96.here hx rfl (hb hby at_203) rfl k) ?_
                  show Go _ _ _ _ _ T96 (mkF m 205 #[.val (.int p1), .val (.long p2), .second, .val (.int p3), .val (.int p4), .val (.int p5), .val (.long p6), .second, .val (.int q8), .val (.long q9), .second, .val (.int q11), .val (.int q12), .val (.int (0 : Int32)), .val (.ref b87), .val (.ref b89), .val (.ref b91), .val (.int (0 : Int32)), .val (.int (0 : Int32)), .val (.int (1 : Int32)), .val (.int (0 : Int32)), .val (.int (0 : Int32))] [(.int (0 : Int32)), (.int (0 : Int32))])
                  refine own_go (fun t k => XS.icmpNo X96.here hx rfl (hb hby at_205) rfl (by decide) k) ?_
                  show Go _ _ _ _ _ T96 (mkF m 208 #[.val (.int p1), .val (.long p2), .second, .val (.int p3), .val (.int p4), .val (.int p5), .val (.long p6), .second, .val (.int q8), .val (.long q9), .second, .val (.int q11), .val (.int q12), .val (.int (0 : Int32)), .val (.ref b87), .val (.ref b89), .val (.ref b91), .val (.int (0 : Int32)), .val (.int (0 : Int32)), .val (.int (1 : Int32)), .val (.int (0 : Int32)), .val (.int (0 : Int32))] [])
                  refine own_go (fun t k => XS.iload X96.here hx rfl (hb hby at_208) rfl k) ?_
                  show Go _ _ _ _ _ T96 (mkF m 210 #[.val (.int p1), .val (.long p2), .second, .val (.int p3), .val (.int p4), .val (.int p5), .val (.long p6), .second, .val (.int q8), .val (.long q9), .second, .val (.int q11), .val (.int q12), .val (.int (0 : Int32)), .val (.ref b87), .val (.ref b89), .val (.ref b91), .val (.int (0 : Int32)), .val (.int (0 : Int32)), .val (.int (1 : Int32)), .val (.int (0 : Int32)), .val (.int (0 : Int32))] [(.int (1 : Int32))])
                  refine own_go (fun t k => XS.ifNo X96.here hx rfl (hb hby at_210) rfl (by decide) k) ?_
                  show Go _ _ _ _ _ T96 (mkF m 213 #[.val (.int p1), .val (.long p2), .second, .val (.int p3), .val (.int p4), .val (.int p5), .val (.long p6), .second, .val (.int q8), .val (.long q9), .second, .val (.int q11), .val (.int q12), .val (.int (0 : Int32)), .val (.ref b87), .val (.ref b89), .val (.ref b91), .val (.int (0 : Int32)), .val (.int (0 : Int32)), .val (.int (1 : Int32)), .val (.int (0 : Int32)), .val (.int (0 : Int32))] [])
                  refine own_go (fun t k => XS.iload X96.here hx rfl (hb hby at_213) rfl k) ?_
                  show Go _ _ _ _ _ T96 (mkF m 215 #[.val (.int p1), .val (.long p2), .second, .val (.int p3), .val (.int p4), .val (.int p5), .val (.long p6), .second, .val (.int q8), .val (.long q9), .second, .val (.int q11), .val (.int q12), .val (.int (0 : Int32)), .val (.ref b87), .val (.ref b89), .val (.ref b91), .val (.int (0 : Int32)), .val (.int (0 : Int32)), .val (.int (1 : Int32)), .val (.int (0 : Int32)), .val (.int (0 : Int32))] [(.int (0 : Int32))])
                  refine own_go (fun t k => XS.ifNo X96.here hx rfl (hb hby at_215) rfl (by decide) k) ?_
                  show Go _ _ _ _ _ T96 (mkF m 218 #[.val (.int p1), .val (.long p2), .second, .val (.int p3), .val (.int p4), .val (.int p5), .val (.long p6), .second, .val (.int q8), .val (.long q9), .second, .val (.int q11), .val (.int q12), .val (.int (0 : Int32)), .val (.ref b87), .val (.ref b89), .val (.ref b91), .val (.int (0 : Int32)), .val (.int (0 : Int32)), .val (.int (1 : Int32)), .val (.int (0 : Int32)), .val (.int (0 : Int32))] [])
                  refine own_go (fun t k => XS.iload X96.here hx rfl (hb hby at_218) rfl k) ?_
                  show Go _ _ _ _ _ T96 (mkF m 220 #[.val (.int p1), .val (.long p2), .second, .val (.int p3), .val (.int p4), .val (.int p5), .val (.long p6), .second, .val (.int q8), .val (.long q9), .second, .val (.int q11), .val (.int q12), .val (.int (0 : Int32)), .val (.ref b87), .val (.ref b89), .val (.ref b91), .val (.int (0 : Int32)), .val (.int (0 : Int32)), .val (.int (1 : Int32)), .val (.int (0 : Int32)), .val (.int (0 : Int32))] [(.int (0 : Int32))])
                  refine own_go (fun t k => XS.ifNo X96.here hx rfl (hb hby at_220) rfl (by decide) k) ?_
                  show Go _ _ _ _ _ T96 (mkF m 223 #[.val (.int p1), .val (.long p2), .second, .val (.int p3), .val (.int p4), .val (.int p5), .val (.long p6), .second, .val (.int q8), .val (.long q9), .second, .val (.int q11), .val (.int q12), .val (.int (0 : Int32)), .val (.ref b87), .val (.ref b89), .val (.ref b91), .val (.int (0 : Int32)), .val (.int (0 : Int32)), .val (.int (1 : Int32)), .val (.int (0 : Int32)), .val (.int (0 : Int32))] [])
                  refine own_go (fun t k => XS.iconst X96.here hx rfl (hb hby at_223) k) ?_
                  show Go _ _ _ _ _ T96 (mkF m 224 #[.val (.int p1), .val (.long p2), .second, .val (.int p3), .val (.int p4), .val (.int p5), .val (.long p6), .second, .val (.int q8), .val (.long q9), .second, .val (.int q11), .val (.int q12), .val (.int (0 : Int32)), .val (.ref b87), .val (.ref b89), .val (.ref b91), .val (.int (0 : Int32)), .val (.int (0 : Int32)), .val (.int (1 : Int32)), .val (.int (0 : Int32)), .val (.int (0 : Int32))] [(.int (1 : Int32))])
                  refine own_go (fun t k => XS.goto X96.here hx rfl (pc0 := 224) (pc' := 228) rfl (hb hby at_224) (by decide) (by decide) k) ?_
                  show Go _ _ _ _ _ T96 (mkF m 228 #[.val (.int p1), .val (.long p2), .second, .val (.int p3), .val (.int p4), .val (.int p5), .val (.long p6), .second, .val (.int q8), .val (.long q9), .second, .val (.int q11), .val (.int q12), .val (.int (0 : Int32)), .val (.ref b87), .val (.ref b89), .val (.ref b91), .val (.int (0 : Int32)), .val (.int (0 : Int32)), .val (.int (1 : Int32)), .val (.int (0 : Int32)), .val (.int (0 : Int32))] [(.int (1 : Int32))])
                  refine own_retN X96 hx (own_lvN X96 hlk (by decide) (by decide)) (t := .boolean) hret (by simp) (hb hby at_228) ?_
                  exact ⟨rfl, N96⟩
                · skip
                  show Go _ _ _ _ _ s₁ (mkF m 106 #[.val (.int p1), .val (.long p2), .second, .val (.int p3), .val (.int p4), .val (.int p5), .val (.long p6), .second, .val (.int q8), .val (.long q9), .second, .val (.int q11), .val (.int q12), .unset, .unset, .unset, .unset, .unset, .unset, .unset, .unset, .unset] [])
                  refine own_go (fun t k => XS.iconst X0.here hx rfl (hb hby at_106) k) ?_
                  show Go _ _ _ _ _ s₁ (mkF m 107 #[.val (.int p1), .val (.long p2), .second, .val (.int p3), .val (.int p4), .val (.int p5), .val (.long p6), .second, .val (.int q8), .val (.long q9), .second, .val (.int q11), .val (.int q12), .unset, .unset, .unset, .unset, .unset, .unset, .unset, .unset, .unset] [(.int (1 : Int32))])
                  refine own_go (fun t k => XS.goto X0.here hx rfl (pc0 := 107) (pc' := 111) rfl (hb hby at_107) (by decide) (by decide) k) ?_
                  show Go _ _ _ _ _ s₁ (mkF m 111 #[.val (.int p1), .val (.long p2), .second, .val (.int p3), .val (.int p4), .val (.int p5), .val (.long p6), .second, .val (.int q8), .val (.long q9), .second, .val (.int q11), .val (.int q12), .unset, .unset, .unset, .unset, .unset, .unset, .unset, .unset, .unset] [(.int (1 : Int32))])
                  refine own_go (fun t k => XS.istore X0.here hx rfl (hb hby at_111) rfl (l' := #[.val (.int p1), .val (.long p2), .second, .val (.int p3), .val (.int p4), .val (.int p5), .val (.long p6), .second, .val (.int q8), .val (.long q9), .second, .val (.int q11), .val (.int q12), .val (.int (1 : Int32)), .unset, .unset, .unset, .unset, .unset, .unset, .unset, .unset]) rfl k) ?_
                  have hsym : ((lcmpW p2 q9) = (0 : Int32)) := (lw_eq p2 q9).mpr ((lw_eq q9 p2).mp hc64).symm
                  have hself : (lcmpW p2 p2) = (0 : Int32) := (lw_eq p2 p2).mpr rfl
                  show Go _ _ _ _ _ s₁ (mkF m 113 #[.val (.int p1), .val (.long p2), .second, .val (.int p3), .val (.int p4), .val (.int p5), .val (.long p6), .second, .val (.int q8), .val (.long q9), .second, .val (.int q11), .val (.int q12), .val (.int (1 : Int32)), .unset, .unset, .unset, .unset, .unset, .unset, .unset, .unset] [])
                  obtain ⟨T97, h97, X97, e97, E97, A97, D97, -, st97⟩ := newO X0 hx hZ hown (hw _ (List.mem_of_getElem? (i := 0) rfl)) (hw _ (List.mem_of_getElem? (i := 1) rfl)) (hw _ (List.mem_of_getElem? (i := 2) rfl)) e0 (g := (mkF m 113 #[.val (.int p1), .val (.long p2), .second, .val (.int p3), .val (.int p4), .val (.int p5), .val (.long p6), .second, .val (.int q8), .val (.long q9), .second, .val (.int q11), .val (.int q12), .val (.int (1 : Int32)), .unset, .unset, .unset, .unset, .unset, .unset, .unset, .unset] [])) rfl (hb hby at_113) (by decide) (by decide)
                  obtain ⟨b97, g97⟩ : ∃ z, z = h0.size := ⟨_, rfl⟩
                  rw [← g97] at A97 D97 st97
                  have ne_ca_b97 : ¬ ca = b97 := Nat.ne_of_lt (by rw [g97]; exact Ca.lt)
                  replace S_high := S_high.ext E97
                  replace S_cache := S_cache.ext E97
                  replace Ca := Ca.ext E97
                  have g_b97 : n0 ≤ b97 := by rw [g97]; exact hn0
                  have hn97 : n0 ≤ h97.size := Nat.le_trans hn0 E97.1
                  have F_df_b97 : Fld Z h97 b97 "com/example/term_weight_evolver/termweightevolver/constraints/Probe" "df" "I" (.int (0 : Int32)) := D97 (Or.inr (hw _ (List.mem_of_getElem? (i := 10) rfl))) (ty := .int) (by decide)
                  have F_cf_b97 : Fld Z h97 b97 "com/example/term_weight_evolver/termweightevolver/constraints/Probe" "cf" "J" (.long (0 : Int64)) := D97 (Or.inr (hw _ (List.mem_of_getElem? (i := 12) rfl))) (ty := .long) (by decide)
                  have F_tf_b97 : Fld Z h97 b97 "com/example/term_weight_evolver/termweightevolver/constraints/Probe" "tf" "I" (.int (0 : Int32)) := D97 (Or.inr (hw _ (List.mem_of_getElem? (i := 14) rfl))) (ty := .int) (by decide)
                  have F_dl_b97 : Fld Z h97 b97 "com/example/term_weight_evolver/termweightevolver/constraints/Probe" "dl" "I" (.int (0 : Int32)) := D97 (Or.inr (hw _ (List.mem_of_getElem? (i := 16) rfl))) (ty := .int) (by decide)
                  refine own_go (fun t k => st97 t k) ?_
                  show Go _ _ _ _ _ T97 (mkF m 116 #[.val (.int p1), .val (.long p2), .second, .val (.int p3), .val (.int p4), .val (.int p5), .val (.long p6), .second, .val (.int q8), .val (.long q9), .second, .val (.int q11), .val (.int q12), .val (.int (1 : Int32)), .unset, .unset, .unset, .unset, .unset, .unset, .unset, .unset] [(.ref b97)])
                  refine own_go (fun t k => XS.dup X97.here hx rfl (hb hby at_116) rfl rfl k) ?_
                  show Go _ _ _ _ _ T97 (mkF m 117 #[.val (.int p1), .val (.long p2), .second, .val (.int p3), .val (.int p4), .val (.int p5), .val (.long p6), .second, .val (.int q8), .val (.long q9), .second, .val (.int q11), .val (.int q12), .val (.int (1 : Int32)), .unset, .unset, .unset, .unset, .unset, .unset, .unset, .unset] [(.ref b97), (.ref b97)])
                  refine own_go (fun t k => XS.iloadN X97.here hx rfl (hb hby at_117) rfl k) ?_
                  show Go _ _ _ _ _ T97 (mkF m 118 #[.val (.int p1), .val (.long p2), .second, .val (.int p3), .val (.int p4), .val (.int p5), .val (.long p6), .second, .val (.int q8), .val (.long q9), .second, .val (.int q11), .val (.int q12), .val (.int (1 : Int32)), .unset, .unset, .unset, .unset, .unset, .unset, .unset, .unset] [(.int p1), (.ref b97), (.ref b97)])
                  refine own_go (fun t k => XS.lloadN X97.here hx rfl (hb hby at_118) rfl k) ?_
                  show Go _ _ _ _ _ T97 (mkF m 119 #[.val (.int p1), .val (.long p2), .second, .val (.int p3), .val (.int p4), .val (.int p5), .val (.long p6), .second, .val (.int q8), .val (.long q9), .second, .val (.int q11), .val (.int q12), .val (.int (1 : Int32)), .unset, .unset, .unset, .unset, .unset, .unset, .unset, .unset] [(.long p2), (.int p1), (.ref b97), (.ref b97)])
                  refine own_go (fun t k => XS.iloadN X97.here hx rfl (hb hby at_119) rfl k) ?_
                  show Go _ _ _ _ _ T97 (mkF m 120 #[.val (.int p1), .val (.long p2), .second, .val (.int p3), .val (.int p4), .val (.int p5), .val (.long p6), .second, .val (.int q8), .val (.long q9), .second, .val (.int q11), .val (.int q12), .val (.int (1 : Int32)), .unset, .unset, .unset, .unset, .unset, .unset, .unset, .unset] [(.int p3), (.long p2), (.int p1), (.ref b97), (.ref b97)])
                  refine own_go (fun t k => XS.iload X97.here hx rfl (hb hby at_120) rfl k) ?_
                  show Go _ _ _ _ _ T97 (mkF m 122 #[.val (.int p1), .val (.long p2), .second, .val (.int p3), .val (.int p4), .val (.int p5), .val (.long p6), .second, .val (.int q8), .val (.long q9), .second, .val (.int q11), .val (.int q12), .val (.int (1 : Int32)), .unset, .unset, .unset, .unset, .unset, .unset, .unset, .unset] [(.int p4), (.int p3), (.long p2), (.int p1), (.ref b97), (.ref b97)])
                  refine own_callI X97 hx hZ (y := (⟨"com/example/term_weight_evolver/termweightevolver/constraints/Probe", "<init>", "(IJII)V"⟩ : MethodName)) rfl hown (hw _ (List.mem_of_getElem? (i := 3) rfl)) (hw _ (List.mem_of_getElem? (i := 4) rfl)) (hw _ (List.mem_of_getElem? (i := 5) rfl)) (hw _ (List.mem_of_getElem? (i := 2) rfl)) (by decide) (rm1 l Z a0 hw [] b97 p1 p2 p3 p4 h97 n0 hn97 A97 g_b97 F_df_b97 F_cf_b97 F_tf_b97 F_dl_b97 ) e97 (b := b97) (by rw [hml]; rfl) (argsL := [(.int p1), (.long p2), (.int p3), (.int p4)]) (rest := [(.ref b97)]) rfl rfl (lenOf own_pd2 rfl) (W := 1) (Nat.le_of_eq rfl) (by decide) (by decide) (hb hby at_122) (by decide) (by decide) ?_
                  intro v98 T98 L98 X98 q98
                  obtain ⟨rfl, N98q, K98, Ex98, F98_df, F98_cf, F98_tf, F98_dl⟩ := q98
                  have N98 := Fr.app N0 N98q
                  replace S_high := own_sta_keep S_high K98 (allS ⟨_, A97⟩ all0)
                  replace S_cache := own_sta_keep S_cache K98 (allS ⟨_, A97⟩ all0)
                  replace Ca := Ca.keep K98 (ninS ne_ca_b97 nin0)
                  replace A97 := A97.keep K98
                  have hn98 : n0 ≤ T98.heap.size := Nat.le_trans hn97 K98.1
                  show Go _ _ _ _ _ T98 (mkF m 125 #[.val (.int p1), .val (.long p2), .second, .val (.int p3), .val (.int p4), .val (.int p5), .val (.long p6), .second, .val (.int q8), .val (.long q9), .second, .val (.int q11), .val (.int q12), .val (.int (1 : Int32)), .unset, .unset, .unset, .unset, .unset, .unset, .unset, .unset] [(.ref b97)])
                  refine own_go (fun t k => XS.astore X98.here hx rfl (hb hby at_125) rfl rfl (l' := #[.val (.int p1), .val (.long p2), .second, .val (.int p3), .val (.int p4), .val (.int p5), .val (.long p6), .second, .val (.int q8), .val (.long q9), .second, .val (.int q11), .val (.int q12), .val (.int (1 : Int32)), .val (.ref b97), .unset, .unset, .unset, .unset, .unset, .unset, .unset]) rfl k) ?_
                  show Go _ _ _ _ _ T98 (mkF m 127 #[.val (.int p1), .val (.long p2), .second, .val (.int p3), .val (.int p4), .val (.int p5), .val (.long p6), .second, .val (.int q8), .val (.long q9), .second, .val (.int q11), .val (.int q12), .val (.int (1 : Int32)), .val (.ref b97), .unset, .unset, .unset, .unset, .unset, .unset, .unset] [])
                  obtain ⟨T99, h99, X99, e99, E99, A99, D99, -, st99⟩ := newO X98 hx hZ hown (hw _ (List.mem_of_getElem? (i := 0) rfl)) (hw _ (List.mem_of_getElem? (i := 1) rfl)) (hw _ (List.mem_of_getElem? (i := 2) rfl)) rfl (g := (mkF m 127 #[.val (.int p1), .val (.long p2), .second, .val (.int p3), .val (.int p4), .val (.int p5), .val (.long p6), .second, .val (.int q8), .val (.long q9), .second, .val (.int q11), .val (.int q12), .val (.int (1 : Int32)), .val (.ref b97), .unset, .unset, .unset, .unset, .unset, .unset, .unset] [])) rfl (hb hby at_127) (by decide) (by decide)
                  obtain ⟨b99, g99⟩ : ∃ z, z = T98.heap.size := ⟨_, rfl⟩
                  rw [← g99] at A99 D99 st99
                  have ne_b97_b99 : ¬ b97 = b99 := Nat.ne_of_lt (by rw [g99]; exact Ex98.lt)
                  have ne_ca_b99 : ¬ ca = b99 := Nat.ne_of_lt (by rw [g99]; exact Ca.lt)
                  replace S_high := S_high.ext E99
                  replace S_cache := S_cache.ext E99
                  replace Ex98 := Ex98.ext E99
                  replace F98_df := F98_df.ext E99
                  replace F98_cf := F98_cf.ext E99
                  replace F98_tf := F98_tf.ext E99
                  replace F98_dl := F98_dl.ext E99
                  replace Ca := Ca.ext E99
                  have g_b99 : n0 ≤ b99 := by rw [g99]; exact hn98
                  have hn99 : n0 ≤ h99.size := Nat.le_trans hn98 E99.1
                  have F_df_b99 : Fld Z h99 b99 "com/example/term_weight_evolver/termweightevolver/constraints/Probe" "df" "I" (.int (0 : Int32)) := D99 (Or.inr (hw _ (List.mem_of_getElem? (i := 10) rfl))) (ty := .int) (by decide)
                  have F_cf_b99 : Fld Z h99 b99 "com/example/term_weight_evolver/termweightevolver/constraints/Probe" "cf" "J" (.long (0 : Int64)) := D99 (Or.inr (hw _ (List.mem_of_getElem? (i := 12) rfl))) (ty := .long) (by decide)
                  have F_tf_b99 : Fld Z h99 b99 "com/example/term_weight_evolver/termweightevolver/constraints/Probe" "tf" "I" (.int (0 : Int32)) := D99 (Or.inr (hw _ (List.mem_of_getElem? (i := 14) rfl))) (ty := .int) (by decide)
                  have F_dl_b99 : Fld Z h99 b99 "com/example/term_weight_evolver/termweightevolver/constraints/Probe" "dl" "I" (.int (0 : Int32)) := D99 (Or.inr (hw _ (List.mem_of_getElem? (i := 16) rfl))) (ty := .int) (by decide)
                  refine own_go (fun t k => st99 t k) ?_
                  show Go _ _ _ _ _ T99 (mkF m 130 #[.val (.int p1), .val (.long p2), .second, .val (.int p3), .val (.int p4), .val (.int p5), .val (.long p6), .second, .val (.int q8), .val (.long q9), .second, .val (.int q11), .val (.int q12), .val (.int (1 : Int32)), .val (.ref b97), .unset, .unset, .unset, .unset, .unset, .unset, .unset] [(.ref b99)])
                  refine own_go (fun t k => XS.dup X99.here hx rfl (hb hby at_130) rfl rfl k) ?_
                  show Go _ _ _ _ _ T99 (mkF m 131 #[.val (.int p1), .val (.long p2), .second, .val (.int p3), .val (.int p4), .val (.int p5), .val (.long p6), .second, .val (.int q8), .val (.long q9), .second, .val (.int q11), .val (.int q12), .val (.int (1 : Int32)), .val (.ref b97), .unset, .unset, .unset, .unset, .unset, .unset, .unset] [(.ref b99), (.ref b99)])
                  refine own_go (fun t k => XS.iload X99.here hx rfl (hb hby at_131) rfl k) ?_
                  show Go _ _ _ _ _ T99 (mkF m 133 #[.val (.int p1), .val (.long p2), .second, .val (.int p3), .val (.int p4), .val (.int p5), .val (.long p6), .second, .val (.int q8), .val (.long q9), .second, .val (.int q11), .val (.int q12), .val (.int (1 : Int32)), .val (.ref b97), .unset, .unset, .unset, .unset, .unset, .unset, .unset] [(.int q8), (.ref b99), (.ref b99)])
                  refine own_go (fun t k => XS.lload X99.here hx rfl (hb hby at_133) rfl k) ?_
                  show Go _ _ _ _ _ T99 (mkF m 135 #[.val (.int p1), .val (.long p2), .second, .val (.int p3), .val (.int p4), .val (.int p5), .val (.long p6), .second, .val (.int q8), .val (.long q9), .second, .val (.int q11), .val (.int q12), .val (.int (1 : Int32)), .val (.ref b97), .unset, .unset, .unset, .unset, .unset, .unset, .unset] [(.long q9), (.int q8), (.ref b99), (.ref b99)])
                  refine own_go (fun t k => XS.iload X99.here hx rfl (hb hby at_135) rfl k) ?_
                  show Go _ _ _ _ _ T99 (mkF m 137 #[.val (.int p1), .val (.long p2), .second, .val (.int p3), .val (.int p4), .val (.int p5), .val (.long p6), .second, .val (.int q8), .val (.long q9), .second, .val (.int q11), .val (.int q12), .val (.int (1 : Int32)), .val (.ref b97), .unset, .unset, .unset, .unset, .unset, .unset, .unset] [(.int q11), (.long q9), (.int q8), (.ref b99), (.ref b99)])
                  refine own_go (fun t k => XS.iload X99.here hx rfl (hb hby at_137) rfl k) ?_
                  show Go _ _ _ _ _ T99 (mkF m 139 #[.val (.int p1), .val (.long p2), .second, .val (.int p3), .val (.int p4), .val (.int p5), .val (.long p6), .second, .val (.int q8), .val (.long q9), .second, .val (.int q11), .val (.int q12), .val (.int (1 : Int32)), .val (.ref b97), .unset, .unset, .unset, .unset, .unset, .unset, .unset] [(.int q12), (.int q11), (.long q9), (.int q8), (.ref b99), (.ref b99)])
                  refine own_callI X99 hx hZ (y := (⟨"com/example/term_weight_evolver/termweightevolver/constraints/Probe", "<init>", "(IJII)V"⟩ : MethodName)) rfl hown (hw _ (List.mem_of_getElem? (i := 3) rfl)) (hw _ (List.mem_of_getElem? (i := 4) rfl)) (hw _ (List.mem_of_getElem? (i := 5) rfl)) (hw _ (List.mem_of_getElem? (i := 2) rfl)) (by decide) (rm1 l Z a0 hw [] b99 q8 q9 q11 q12 h99 n0 hn99 A99 g_b99 F_df_b99 F_cf_b99 F_tf_b99 F_dl_b99 ) e99 (b := b99) (by rw [hml]; rfl) (argsL := [(.int q8), (.long q9), (.int q11), (.int q12)]) (rest := [(.ref b99)]) rfl rfl (lenOf own_pd2 rfl) (W := 1) (Nat.le_of_eq rfl) (by decide) (by decide) (hb hby at_139) (by decide) (by decide) ?_
                  intro v100 T100 L100 X100 q100
                  obtain ⟨rfl, N100q, K100, Ex100, F100_df, F100_cf, F100_tf, F100_dl⟩ := q100
                  have N100 := Fr.app N98 N100q
                  replace S_high := own_sta_keep S_high K100 (allS ⟨_, A99⟩ all0)
                  replace S_cache := own_sta_keep S_cache K100 (allS ⟨_, A99⟩ all0)
                  replace F98_df := F98_df.keep K100 (ninS ne_b97_b99 nin0)
                  replace F98_cf := F98_cf.keep K100 (ninS ne_b97_b99 nin0)
                  replace F98_tf := F98_tf.keep K100 (ninS ne_b97_b99 nin0)
                  replace F98_dl := F98_dl.keep K100 (ninS ne_b97_b99 nin0)
                  replace Ca := Ca.keep K100 (ninS ne_ca_b99 nin0)
                  replace Ex98 := Ex98.keep K100
                  replace A99 := A99.keep K100
                  have hn100 : n0 ≤ T100.heap.size := Nat.le_trans hn99 K100.1
                  show Go _ _ _ _ _ T100 (mkF m 142 #[.val (.int p1), .val (.long p2), .second, .val (.int p3), .val (.int p4), .val (.int p5), .val (.long p6), .second, .val (.int q8), .val (.long q9), .second, .val (.int q11), .val (.int q12), .val (.int (1 : Int32)), .val (.ref b97), .unset, .unset, .unset, .unset, .unset, .unset, .unset] [(.ref b99)])
                  refine own_go (fun t k => XS.astore X100.here hx rfl (hb hby at_142) rfl rfl (l' := #[.val (.int p1), .val (.long p2), .second, .val (.int p3), .val (.int p4), .val (.int p5), .val (.long p6), .second, .val (.int q8), .val (.long q9), .second, .val (.int q11), .val (.int q12), .val (.int (1 : Int32)), .val (.ref b97), .val (.ref b99), .unset, .unset, .unset, .unset, .unset, .unset]) rfl k) ?_
                  show Go _ _ _ _ _ T100 (mkF m 144 #[.val (.int p1), .val (.long p2), .second, .val (.int p3), .val (.int p4), .val (.int p5), .val (.long p6), .second, .val (.int q8), .val (.long q9), .second, .val (.int q11), .val (.int q12), .val (.int (1 : Int32)), .val (.ref b97), .val (.ref b99), .unset, .unset, .unset, .unset, .unset, .unset] [])
                  refine own_go (fun t k => XS.iloadN X100.here hx rfl (hb hby at_144) rfl k) ?_
                  show Go _ _ _ _ _ T100 (mkF m 145 #[.val (.int p1), .val (.long p2), .second, .val (.int p3), .val (.int p4), .val (.int p5), .val (.long p6), .second, .val (.int q8), .val (.long q9), .second, .val (.int q11), .val (.int q12), .val (.int (1 : Int32)), .val (.ref b97), .val (.ref b99), .unset, .unset, .unset, .unset, .unset, .unset] [(.int p1)])
                  refine own_callS X100 hx hZ (y := (⟨"java/lang/Integer", "valueOf", "(I)Ljava/lang/Integer;"⟩ : MethodName)) hown (hw _ (List.mem_of_getElem? (i := 17) rfl)) (hw _ (List.mem_of_getElem? (i := 18) rfl)) (hw _ (List.mem_of_getElem? (i := 19) rfl)) (hw _ (List.mem_of_getElem? (i := 20) rfl)) (by decide) (rm3 l Z a0 hw [] p1 ca T100.heap n0 hn100 S_high S_cache Ca) rfl (by rw [hml]; rfl) (argsL := [(.int p1)]) (rest := []) rfl rfl (lenOf own_pd3 rfl) (W := 0) (Nat.le_of_eq rfl) (by decide) (by decide) (hb hby at_145) (by decide) (by decide) ?_
                  intro v101 T101 L101 X101 q101
                  obtain ⟨b101, rfl, N101q, K101, Ex101⟩ := q101
                  have N101 := Fr.app N100 N101q
                  replace S_high := own_sta_keep S_high K101 all0
                  replace S_cache := own_sta_keep S_cache K101 all0
                  replace F98_df := F98_df.keep K101 nin0
                  replace F98_cf := F98_cf.keep K101 nin0
                  replace F98_tf := F98_tf.keep K101 nin0
                  replace F98_dl := F98_dl.keep K101 nin0
                  replace F100_df := F100_df.keep K101 nin0
                  replace F100_cf := F100_cf.keep K101 nin0
                  replace F100_tf := F100_tf.keep K101 nin0
                  replace F100_dl := F100_dl.keep K101 nin0
                  replace Ca := Ca.keep K101 nin0
                  replace Ex98 := Ex98.keep K101
                  replace Ex100 := Ex100.keep K101
                  have hn101 : n0 ≤ T101.heap.size := Nat.le_trans hn100 K101.1
                  show Go _ _ _ _ _ T101 (mkF m 148 #[.val (.int p1), .val (.long p2), .second, .val (.int p3), .val (.int p4), .val (.int p5), .val (.long p6), .second, .val (.int q8), .val (.long q9), .second, .val (.int q11), .val (.int q12), .val (.int (1 : Int32)), .val (.ref b97), .val (.ref b99), .unset, .unset, .unset, .unset, .unset, .unset] [(.ref b101)])
                  refine own_go (fun t k => XS.astore X101.here hx rfl (hb hby at_148) rfl rfl (l' := #[.val (.int p1), .val (.long p2), .second, .val (.int p3), .val (.int p4), .val (.int p5), .val (.long p6), .second, .val (.int q8), .val (.long q9), .second, .val (.int q11), .val (.int q12), .val (.int (1 : Int32)), .val (.ref b97), .val (.ref b99), .val (.ref b101), .unset, .unset, .unset, .unset, .unset]) rfl k) ?_
                  show Go _ _ _ _ _ T101 (mkF m 150 #[.val (.int p1), .val (.long p2), .second, .val (.int p3), .val (.int p4), .val (.int p5), .val (.long p6), .second, .val (.int q8), .val (.long q9), .second, .val (.int q11), .val (.int q12), .val (.int (1 : Int32)), .val (.ref b97), .val (.ref b99), .val (.ref b101), .unset, .unset, .unset, .unset, .unset] [])
                  refine own_go (fun t k => XS.aload X101.here hx rfl (hb hby at_150) rfl rfl k) ?_
                  show Go _ _ _ _ _ T101 (mkF m 152 #[.val (.int p1), .val (.long p2), .second, .val (.int p3), .val (.int p4), .val (.int p5), .val (.long p6), .second, .val (.int q8), .val (.long q9), .second, .val (.int q11), .val (.int q12), .val (.int (1 : Int32)), .val (.ref b97), .val (.ref b99), .val (.ref b101), .unset, .unset, .unset, .unset, .unset] [(.ref b97)])
                  refine own_go (fun t k => XS.aload X101.here hx rfl (hb hby at_152) rfl rfl k) ?_
                  show Go _ _ _ _ _ T101 (mkF m 154 #[.val (.int p1), .val (.long p2), .second, .val (.int p3), .val (.int p4), .val (.int p5), .val (.long p6), .second, .val (.int q8), .val (.long q9), .second, .val (.int q11), .val (.int q12), .val (.int (1 : Int32)), .val (.ref b97), .val (.ref b99), .val (.ref b101), .unset, .unset, .unset, .unset, .unset] [(.ref b99), (.ref b97)])
                  refine own_callV X101 hx hZ (y := (⟨"com/example/term_weight_evolver/termweightevolver/constraints/Probe", "equals", "(Ljava/lang/Object;)Z"⟩ : MethodName)) hown (hw _ (List.mem_of_getElem? (i := 24) rfl)) (hw _ (List.mem_of_getElem? (i := 25) rfl)) (hw _ (List.mem_of_getElem? (i := 27) rfl)) (hw _ (List.mem_of_getElem? (i := 26) rfl)) (hw _ (List.mem_of_getElem? (i := 28) rfl)) (hw _ (List.mem_of_getElem? (i := 2) rfl)) (by decide) (rm_eq_same l Z a0 hw [] b97 b99 p1 p2 p3 p4 q8 q9 q11 q12 (1 : Int32) T101.heap n0 hn101 Ex100 F98_df F98_cf F98_tf F98_dl F100_df F100_cf F100_tf F100_dl (by rw [own_f_rm_eq_same, if_pos (hc53).symm, if_pos hsym, if_pos (hc75).symm, if_pos (hc86).symm]; try first | rfl | decide)) rfl Ex98 (by rw [hml]; rfl) (argsL := [(.ref b99)]) (rest := []) rfl rfl (lenOf own_pd4 rfl) (W := 0) (Nat.le_of_eq rfl) (by decide) (by decide) (hb hby at_154) (by decide) (by decide) ?_
                  intro v102 T102 L102 X102 q102
                  obtain ⟨rfl, N102q, e102⟩ := q102
                  have N102 := Fr.app N101 N102q
                  show Go _ _ _ _ _ T102 (mkF m 157 #[.val (.int p1), .val (.long p2), .second, .val (.int p3), .val (.int p4), .val (.int p5), .val (.long p6), .second, .val (.int q8), .val (.long q9), .second, .val (.int q11), .val (.int q12), .val (.int (1 : Int32)), .val (.ref b97), .val (.ref b99), .val (.ref b101), .unset, .unset, .unset, .unset, .unset] [(.int (1 : Int32))])
                  refine own_go (fun t k => XS.istore X102.here hx rfl (hb hby at_157) rfl (l' := #[.val (.int p1), .val (.long p2), .second, .val (.int p3), .val (.int p4), .val (.int p5), .val (.long p6), .second, .val (.int q8), .val (.long q9), .second, .val (.int q11), .val (.int q12), .val (.int (1 : Int32)), .val (.ref b97), .val (.ref b99), .val (.ref b101), .val (.int (1 : Int32)), .unset, .unset, .unset, .unset]) rfl k) ?_
                  show Go _ _ _ _ _ T102 (mkF m 159 #[.val (.int p1), .val (.long p2), .second, .val (.int p3), .val (.int p4), .val (.int p5), .val (.long p6), .second, .val (.int q8), .val (.long q9), .second, .val (.int q11), .val (.int q12), .val (.int (1 : Int32)), .val (.ref b97), .val (.ref b99), .val (.ref b101), .val (.int (1 : Int32)), .unset, .unset, .unset, .unset] [])
                  refine own_go (fun t k => XS.aload X102.here hx rfl (hb hby at_159) rfl rfl k) ?_
                  show Go _ _ _ _ _ T102 (mkF m 161 #[.val (.int p1), .val (.long p2), .second, .val (.int p3), .val (.int p4), .val (.int p5), .val (.long p6), .second, .val (.int q8), .val (.long q9), .second, .val (.int q11), .val (.int q12), .val (.int (1 : Int32)), .val (.ref b97), .val (.ref b99), .val (.ref b101), .val (.int (1 : Int32)), .unset, .unset, .unset, .unset] [(.ref b99)])
                  refine own_go (fun t k => XS.aload X102.here hx rfl (hb hby at_161) rfl rfl k) ?_
                  show Go _ _ _ _ _ T102 (mkF m 163 #[.val (.int p1), .val (.long p2), .second, .val (.int p3), .val (.int p4), .val (.int p5), .val (.long p6), .second, .val (.int q8), .val (.long q9), .second, .val (.int q11), .val (.int q12), .val (.int (1 : Int32)), .val (.ref b97), .val (.ref b99), .val (.ref b101), .val (.int (1 : Int32)), .unset, .unset, .unset, .unset] [(.ref b97), (.ref b99)])
                  refine own_callV X102 hx hZ (y := (⟨"com/example/term_weight_evolver/termweightevolver/constraints/Probe", "equals", "(Ljava/lang/Object;)Z"⟩ : MethodName)) hown (hw _ (List.mem_of_getElem? (i := 24) rfl)) (hw _ (List.mem_of_getElem? (i := 25) rfl)) (hw _ (List.mem_of_getElem? (i := 27) rfl)) (hw _ (List.mem_of_getElem? (i := 26) rfl)) (hw _ (List.mem_of_getElem? (i := 28) rfl)) (hw _ (List.mem_of_getElem? (i := 2) rfl)) (by decide) (rm_eq_same l Z a0 hw [] b99 b97 q8 q9 q11 q12 p1 p2 p3 p4 (1 : Int32) T101.heap n0 hn101 Ex98 F100_df F100_cf F100_tf F100_dl F98_df F98_cf F98_tf F98_dl (by rw [own_f_rm_eq_same, if_pos hc53, if_pos hc64, if_pos hc75, if_pos hc86]; try first | rfl | decide)) e102 Ex100 (by rw [hml]; rfl) (argsL := [(.ref b97)]) (rest := []) rfl rfl (lenOf own_pd4 rfl) (W := 0) (Nat.le_of_eq rfl) (by decide) (by decide) (hb hby at_163) (by decide) (by decide) ?_
                  intro v103 T103 L103 X103 q103
                  obtain ⟨rfl, N103q, e103⟩ := q103
                  have N103 := Fr.app N102 N103q
                  show Go _ _ _ _ _ T103 (mkF m 166 #[.val (.int p1), .val (.long p2), .second, .val (.int p3), .val (.int p4), .val (.int p5), .val (.long p6), .second, .val (.int q8), .val (.long q9), .second, .val (.int q11), .val (.int q12), .val (.int (1 : Int32)), .val (.ref b97), .val (.ref b99), .val (.ref b101), .val (.int (1 : Int32)), .unset, .unset, .unset, .unset] [(.int (1 : Int32))])
                  refine own_go (fun t k => XS.istore X103.here hx rfl (hb hby at_166) rfl (l' := #[.val (.int p1), .val (.long p2), .second, .val (.int p3), .val (.int p4), .val (.int p5), .val (.long p6), .second, .val (.int q8), .val (.long q9), .second, .val (.int q11), .val (.int q12), .val (.int (1 : Int32)), .val (.ref b97), .val (.ref b99), .val (.ref b101), .val (.int (1 : Int32)), .val (.int (1 : Int32)), .unset, .unset, .unset]) rfl k) ?_
                  show Go _ _ _ _ _ T103 (mkF m 168 #[.val (.int p1), .val (.long p2), .second, .val (.int p3), .val (.int p4), .val (.int p5), .val (.long p6), .second, .val (.int q8), .val (.long q9), .second, .val (.int q11), .val (.int q12), .val (.int (1 : Int32)), .val (.ref b97), .val (.ref b99), .val (.ref b101), .val (.int (1 : Int32)), .val (.int (1 : Int32)), .unset, .unset, .unset] [])
                  refine own_go (fun t k => XS.aload X103.here hx rfl (hb hby at_168) rfl rfl k) ?_
                  show Go _ _ _ _ _ T103 (mkF m 170 #[.val (.int p1), .val (.long p2), .second, .val (.int p3), .val (.int p4), .val (.int p5), .val (.long p6), .second, .val (.int q8), .val (.long q9), .second, .val (.int q11), .val (.int q12), .val (.int (1 : Int32)), .val (.ref b97), .val (.ref b99), .val (.ref b101), .val (.int (1 : Int32)), .val (.int (1 : Int32)), .unset, .unset, .unset] [(.ref b97)])
                  refine own_go (fun t k => XS.aload X103.here hx rfl (hb hby at_170) rfl rfl k) ?_
                  show Go _ _ _ _ _ T103 (mkF m 172 #[.val (.int p1), .val (.long p2), .second, .val (.int p3), .val (.int p4), .val (.int p5), .val (.long p6), .second, .val (.int q8), .val (.long q9), .second, .val (.int q11), .val (.int q12), .val (.int (1 : Int32)), .val (.ref b97), .val (.ref b99), .val (.ref b101), .val (.int (1 : Int32)), .val (.int (1 : Int32)), .unset, .unset, .unset] [(.ref b97), (.ref b97)])
                  refine own_callV X103 hx hZ (y := (⟨"com/example/term_weight_evolver/termweightevolver/constraints/Probe", "equals", "(Ljava/lang/Object;)Z"⟩ : MethodName)) hown (hw _ (List.mem_of_getElem? (i := 24) rfl)) (hw _ (List.mem_of_getElem? (i := 25) rfl)) (hw _ (List.mem_of_getElem? (i := 27) rfl)) (hw _ (List.mem_of_getElem? (i := 26) rfl)) (hw _ (List.mem_of_getElem? (i := 28) rfl)) (hw _ (List.mem_of_getElem? (i := 2) rfl)) (by decide) (rm_eq_same l Z a0 hw [] b97 b97 p1 p2 p3 p4 p1 p2 p3 p4 (1 : Int32) T101.heap n0 hn101 Ex98 F98_df F98_cf F98_tf F98_dl F98_df F98_cf F98_tf F98_dl (by rw [own_f_rm_eq_same, if_pos (show p1 = p1 from rfl), if_pos hself, if_pos (show p3 = p3 from rfl), if_pos (show p4 = p4 from rfl)]; try first | rfl | decide)) e103 Ex98 (by rw [hml]; rfl) (argsL := [(.ref b97)]) (rest := []) rfl rfl (lenOf own_pd4 rfl) (W := 0) (Nat.le_of_eq rfl) (by decide) (by decide) (hb hby at_172) (by decide) (by decide) ?_
                  intro v104 T104 L104 X104 q104
                  obtain ⟨rfl, N104q, e104⟩ := q104
                  have N104 := Fr.app N103 N104q
                  show Go _ _ _ _ _ T104 (mkF m 175 #[.val (.int p1), .val (.long p2), .second, .val (.int p3), .val (.int p4), .val (.int p5), .val (.long p6), .second, .val (.int q8), .val (.long q9), .second, .val (.int q11), .val (.int q12), .val (.int (1 : Int32)), .val (.ref b97), .val (.ref b99), .val (.ref b101), .val (.int (1 : Int32)), .val (.int (1 : Int32)), .unset, .unset, .unset] [(.int (1 : Int32))])
                  refine own_go (fun t k => XS.istore X104.here hx rfl (hb hby at_175) rfl (l' := #[.val (.int p1), .val (.long p2), .second, .val (.int p3), .val (.int p4), .val (.int p5), .val (.long p6), .second, .val (.int q8), .val (.long q9), .second, .val (.int q11), .val (.int q12), .val (.int (1 : Int32)), .val (.ref b97), .val (.ref b99), .val (.ref b101), .val (.int (1 : Int32)), .val (.int (1 : Int32)), .val (.int (1 : Int32)), .unset, .unset]) rfl k) ?_
                  show Go _ _ _ _ _ T104 (mkF m 177 #[.val (.int p1), .val (.long p2), .second, .val (.int p3), .val (.int p4), .val (.int p5), .val (.long p6), .second, .val (.int q8), .val (.long q9), .second, .val (.int q11), .val (.int q12), .val (.int (1 : Int32)), .val (.ref b97), .val (.ref b99), .val (.ref b101), .val (.int (1 : Int32)), .val (.int (1 : Int32)), .val (.int (1 : Int32)), .unset, .unset] [])
                  refine own_go (fun t k => XS.aload X104.here hx rfl (hb hby at_177) rfl rfl k) ?_
                  show Go _ _ _ _ _ T104 (mkF m 179 #[.val (.int p1), .val (.long p2), .second, .val (.int p3), .val (.int p4), .val (.int p5), .val (.long p6), .second, .val (.int q8), .val (.long q9), .second, .val (.int q11), .val (.int q12), .val (.int (1 : Int32)), .val (.ref b97), .val (.ref b99), .val (.ref b101), .val (.int (1 : Int32)), .val (.int (1 : Int32)), .val (.int (1 : Int32)), .unset, .unset] [(.ref b97)])
                  refine own_go (fun t k => XS.aconstNull X104.here hx rfl (hb hby at_179) k) ?_
                  show Go _ _ _ _ _ T104 (mkF m 180 #[.val (.int p1), .val (.long p2), .second, .val (.int p3), .val (.int p4), .val (.int p5), .val (.long p6), .second, .val (.int q8), .val (.long q9), .second, .val (.int q11), .val (.int q12), .val (.int (1 : Int32)), .val (.ref b97), .val (.ref b99), .val (.ref b101), .val (.int (1 : Int32)), .val (.int (1 : Int32)), .val (.int (1 : Int32)), .unset, .unset] [.null, (.ref b97)])
                  refine own_callV X104 hx hZ (y := (⟨"com/example/term_weight_evolver/termweightevolver/constraints/Probe", "equals", "(Ljava/lang/Object;)Z"⟩ : MethodName)) hown (hw _ (List.mem_of_getElem? (i := 24) rfl)) (hw _ (List.mem_of_getElem? (i := 25) rfl)) (hw _ (List.mem_of_getElem? (i := 27) rfl)) (hw _ (List.mem_of_getElem? (i := 26) rfl)) (hw _ (List.mem_of_getElem? (i := 28) rfl)) (hw _ (List.mem_of_getElem? (i := 2) rfl)) (by decide) (rm_eq_null l Z a0 hw [] b97 (0 : Int32) T101.heap n0 hn101  (by rw [own_f_rm_eq_null]; try first | rfl | decide)) e104 Ex98 (by rw [hml]; rfl) (argsL := [.null]) (rest := []) rfl rfl (lenOf own_pd4 rfl) (W := 0) (Nat.le_of_eq rfl) (by decide) (by decide) (hb hby at_180) (by decide) (by decide) ?_
                  intro v105 T105 L105 X105 q105
                  obtain ⟨rfl, N105q, e105⟩ := q105
                  have N105 := Fr.app N104 N105q
                  show Go _ _ _ _ _ T105 (mkF m 183 #[.val (.int p1), .val (.long p2), .second, .val (.int p3), .val (.int p4), .val (.int p5), .val (.long p6), .second, .val (.int q8), .val (.long q9), .second, .val (.int q11), .val (.int q12), .val (.int (1 : Int32)), .val (.ref b97), .val (.ref b99), .val (.ref b101), .val (.int (1 : Int32)), .val (.int (1 : Int32)), .val (.int (1 : Int32)), .unset, .unset] [(.int (0 : Int32))])
                  refine own_go (fun t k => XS.istore X105.here hx rfl (hb hby at_183) rfl (l' := #[.val (.int p1), .val (.long p2), .second, .val (.int p3), .val (.int p4), .val (.int p5), .val (.long p6), .second, .val (.int q8), .val (.long q9), .second, .val (.int q11), .val (.int q12), .val (.int (1 : Int32)), .val (.ref b97), .val (.ref b99), .val (.ref b101), .val (.int (1 : Int32)), .val (.int (1 : Int32)), .val (.int (1 : Int32)), .val (.int (0 : Int32)), .unset]) rfl k) ?_
                  show Go _ _ _ _ _ T105 (mkF m 185 #[.val (.int p1), .val (.long p2), .second, .val (.int p3), .val (.int p4), .val (.int p5), .val (.long p6), .second, .val (.int q8), .val (.long q9), .second, .val (.int q11), .val (.int q12), .val (.int (1 : Int32)), .val (.ref b97), .val (.ref b99), .val (.ref b101), .val (.int (1 : Int32)), .val (.int (1 : Int32)), .val (.int (1 : Int32)), .val (.int (0 : Int32)), .unset] [])
                  refine own_go (fun t k => XS.aload X105.here hx rfl (hb hby at_185) rfl rfl k) ?_
                  show Go _ _ _ _ _ T105 (mkF m 187 #[.val (.int p1), .val (.long p2), .second, .val (.int p3), .val (.int p4), .val (.int p5), .val (.long p6), .second, .val (.int q8), .val (.long q9), .second, .val (.int q11), .val (.int q12), .val (.int (1 : Int32)), .val (.ref b97), .val (.ref b99), .val (.ref b101), .val (.int (1 : Int32)), .val (.int (1 : Int32)), .val (.int (1 : Int32)), .val (.int (0 : Int32)), .unset] [(.ref b97)])
                  refine own_go (fun t k => XS.aload X105.here hx rfl (hb hby at_187) rfl rfl k) ?_
                  show Go _ _ _ _ _ T105 (mkF m 189 #[.val (.int p1), .val (.long p2), .second, .val (.int p3), .val (.int p4), .val (.int p5), .val (.long p6), .second, .val (.int q8), .val (.long q9), .second, .val (.int q11), .val (.int q12), .val (.int (1 : Int32)), .val (.ref b97), .val (.ref b99), .val (.ref b101), .val (.int (1 : Int32)), .val (.int (1 : Int32)), .val (.int (1 : Int32)), .val (.int (0 : Int32)), .unset] [(.ref b101), (.ref b97)])
                  refine own_callV X105 hx hZ (y := (⟨"com/example/term_weight_evolver/termweightevolver/constraints/Probe", "equals", "(Ljava/lang/Object;)Z"⟩ : MethodName)) hown (hw _ (List.mem_of_getElem? (i := 24) rfl)) (hw _ (List.mem_of_getElem? (i := 25) rfl)) (hw _ (List.mem_of_getElem? (i := 27) rfl)) (hw _ (List.mem_of_getElem? (i := 26) rfl)) (hw _ (List.mem_of_getElem? (i := 28) rfl)) (hw _ (List.mem_of_getElem? (i := 2) rfl)) (by decide) (rm_eq_other l Z a0 hw [] b97 b101 (0 : Int32) T101.heap n0 hn101 Ex101 (by rw [own_f_rm_eq_other]; try first | rfl | decide)) e105 Ex98 (by rw [hml]; rfl) (argsL := [(.ref b101)]) (rest := []) rfl rfl (lenOf own_pd4 rfl) (W := 0) (Nat.le_of_eq rfl) (by decide) (by decide) (hb hby at_189) (by decide) (by decide) ?_
                  intro v106 T106 L106 X106 q106
                  obtain ⟨rfl, N106q, e106⟩ := q106
                  have N106 := Fr.app N105 N106q
                  show Go _ _ _ _ _ T106 (mkF m 192 #[.val (.int p1), .val (.long p2), .second, .val (.int p3), .val (.int p4), .val (.int p5), .val (.long p6), .second, .val (.int q8), .val (.long q9), .second, .val (.int q11), .val (.int q12), .val (.int (1 : Int32)), .val (.ref b97), .val (.ref b99), .val (.ref b101), .val (.int (1 : Int32)), .val (.int (1 : Int32)), .val (.int (1 : Int32)), .val (.int (0 : Int32)), .unset] [(.int (0 : Int32))])
                  refine own_go (fun t k => XS.istore X106.here hx rfl (hb hby at_192) rfl (l' := #[.val (.int p1), .val (.long p2), .second, .val (.int p3), .val (.int p4), .val (.int p5), .val (.long p6), .second, .val (.int q8), .val (.long q9), .second, .val (.int q11), .val (.int q12), .val (.int (1 : Int32)), .val (.ref b97), .val (.ref b99), .val (.ref b101), .val (.int (1 : Int32)), .val (.int (1 : Int32)), .val (.int (1 : Int32)), .val (.int (0 : Int32)), .val (.int (0 : Int32))]) rfl k) ?_
                  show Go _ _ _ _ _ T106 (mkF m 194 #[.val (.int p1), .val (.long p2), .second, .val (.int p3), .val (.int p4), .val (.int p5), .val (.long p6), .second, .val (.int q8), .val (.long q9), .second, .val (.int q11), .val (.int q12), .val (.int (1 : Int32)), .val (.ref b97), .val (.ref b99), .val (.ref b101), .val (.int (1 : Int32)), .val (.int (1 : Int32)), .val (.int (1 : Int32)), .val (.int (0 : Int32)), .val (.int (0 : Int32))] [])
                  refine own_go (fun t k => XS.iload X106.here hx rfl (hb hby at_194) rfl k) ?_
                  show Go _ _ _ _ _ T106 (mkF m 196 #[.val (.int p1), .val (.long p2), .second, .val (.int p3), .val (.int p4), .val (.int p5), .val (.long p6), .second, .val (.int q8), .val (.long q9), .second, .val (.int q11), .val (.int q12), .val (.int (1 : Int32)), .val (.ref b97), .val (.ref b99), .val (.ref b101), .val (.int (1 : Int32)), .val (.int (1 : Int32)), .val (.int (1 : Int32)), .val (.int (0 : Int32)), .val (.int (0 : Int32))] [(.int (1 : Int32))])
                  refine own_go (fun t k => XS.iload X106.here hx rfl (hb hby at_196) rfl k) ?_
                  show Go _ _ _ _ _ T106 (mkF m 198 #[.val (.int p1), .val (.long p2), .second, .val (.int p3), .val (.int p4), .val (.int p5), .val (.long p6), .second, .val (.int q8), .val (.long q9), .second, .val (.int q11), .val (.int q12), .val (.int (1 : Int32)), .val (.ref b97), .val (.ref b99), .val (.ref b101), .val (.int (1 : Int32)), .val (.int (1 : Int32)), .val (.int (1 : Int32)), .val (.int (0 : Int32)), .val (.int (0 : Int32))] [(.int (1 : Int32)), (.int (1 : Int32))])
                  refine own_go (fun t k => XS.icmpNo X106.here hx rfl (hb hby at_198) rfl (by decide) k) ?_
                  show Go _ _ _ _ _ T106 (mkF m 201 #[.val (.int p1), .val (.long p2), .second, .val (.int p3), .val (.int p4), .val (.int p5), .val (.long p6), .second, .val (.int q8), .val (.long q9), .second, .val (.int q11), .val (.int q12), .val (.int (1 : Int32)), .val (.ref b97), .val (.ref b99), .val (.ref b101), .val (.int (1 : Int32)), .val (.int (1 : Int32)), .val (.int (1 : Int32)), .val (.int (0 : Int32)), .val (.int (0 : Int32))] [])
                  refine own_go (fun t k => XS.iload X106.here hx rfl (hb hby at_201) rfl k) ?_
                  show Go _ _ _ _ _ T106 (mkF m 203 #[.val (.int p1), .val (.long p2), .second, .val (.int p3), .val (.int p4), .val (.int p5), .val (.long p6), .second, .val (.int q8), .val (.long q9), .second, .val (.int q11), .val (.int q12), .val (.int (1 : Int32)), .val (.ref b97), .val (.ref b99), .val (.ref b101), .val (.int (1 : Int32)), .val (.int (1 : Int32)), .val (.int (1 : Int32)), .val (.int (0 : Int32)), .val (.int (0 : Int32))] [(.int (1 : Int32))])
                  refine own_go (fun t k => XS.iload X106.here hx rfl (hb hby at_203) rfl k) ?_
                  show Go _ _ _ _ _ T106 (mkF m 205 #[.val (.int p1), .val (.long p2), .second, .val (.int p3), .val (.int p4), .val (.int p5), .val (.long p6), .second, .val (.int q8), .val (.long q9), .second, .val (.int q11), .val (.int q12), .val (.int (1 : Int32)), .val (.ref b97), .val (.ref b99), .val (.ref b101), .val (.int (1 : Int32)), .val (.int (1 : Int32)), .val (.int (1 : Int32)), .val (.int (0 : Int32)), .val (.int (0 : Int32))] [(.int (1 : Int32)), (.int (1 : Int32))])
                  refine own_go (fun t k => XS.icmpNo X106.here hx rfl (hb hby at_205) rfl (by decide) k) ?_
                  show Go _ _ _ _ _ T106 (mkF m 208 #[.val (.int p1), .val (.long p2), .second, .val (.int p3), .val (.int p4), .val (.int p5), .val (.long p6), .second, .val (.int q8), .val (.long q9), .second, .val (.int q11), .val (.int q12), .val (.int (1 : Int32)), .val (.ref b97), .val (.ref b99), .val (.ref b101), .val (.int (1 : Int32)), .val (.int (1 : Int32)), .val (.int (1 : Int32)), .val (.int (0 : Int32)), .val (.int (0 : Int32))] [])
                  refine own_go (fun t k => XS.iload X106.here hx rfl (hb hby at_208) rfl k) ?_
                  show Go _ _ _ _ _ T106 (mkF m 210 #[.val (.int p1), .val (.long p2), .second, .val (.int p3), .val (.int p4), .val (.int p5), .val (.long p6), .second, .val (.int q8), .val (.long q9), .second, .val (.int q11), .val (.int q12), .val (.int (1 : Int32)), .val (.ref b97), .val (.ref b99), .val (.ref b101), .val (.int (1 : Int32)), .val (.int (1 : Int32)), .val (.int (1 : Int32)), .val (.int (0 : Int32)), .val (.int (0 : Int32))] [(.int (1 : Int32))])
                  refine own_go (fun t k => XS.ifNo X106.here hx rfl (hb hby at_210) rfl (by decide) k) ?_
                  show Go _ _ _ _ _ T106 (mkF m 213 #[.val (.int p1), .val (.long p2), .second, .val (.int p3), .val (.int p4), .val (.int p5), .val (.long p6), .second, .val (.int q8), .val (.long q9), .second, .val (.int q11), .val (.int q12), .val (.int (1 : Int32)), .val (.ref b97), .val (.ref b99), .val (.ref b101), .val (.int (1 : Int32)), .val (.int (1 : Int32)), .val (.int (1 : Int32)), .val (.int (0 : Int32)), .val (.int (0 : Int32))] [])
                  refine own_go (fun t k => XS.iload X106.here hx rfl (hb hby at_213) rfl k) ?_
                  show Go _ _ _ _ _ T106 (mkF m 215 #[.val (.int p1), .val (.long p2), .second, .val (.int p3), .val (.int p4), .val (.int p5), .val (.long p6), .second, .val (.int q8), .val (.long q9), .second, .val (.int q11), .val (.int q12), .val (.int (1 : Int32)), .val (.ref b97), .val (.ref b99), .val (.ref b101), .val (.int (1 : Int32)), .val (.int (1 : Int32)), .val (.int (1 : Int32)), .val (.int (0 : Int32)), .val (.int (0 : Int32))] [(.int (0 : Int32))])
                  refine own_go (fun t k => XS.ifNo X106.here hx rfl (hb hby at_215) rfl (by decide) k) ?_
                  show Go _ _ _ _ _ T106 (mkF m 218 #[.val (.int p1), .val (.long p2), .second, .val (.int p3), .val (.int p4), .val (.int p5), .val (.long p6), .second, .val (.int q8), .val (.long q9), .second, .val (.int q11), .val (.int q12), .val (.int (1 : Int32)), .val (.ref b97), .val (.ref b99), .val (.ref b101), .val (.int (1 : Int32)), .val (.int (1 : Int32)), .val (.int (1 : Int32)), .val (.int (0 : Int32)), .val (.int (0 : Int32))] [])
                  refine own_go (fun t k => XS.iload X106.here hx rfl (hb hby at_218) rfl k) ?_
                  show Go _ _ _ _ _ T106 (mkF m 220 #[.val (.int p1), .val (.long p2), .second, .val (.int p3), .val (.int p4), .val (.int p5), .val (.long p6), .second, .val (.int q8), .val (.long q9), .second, .val (.int q11), .val (.int q12), .val (.int (1 : Int32)), .val (.ref b97), .val (.ref b99), .val (.ref b101), .val (.int (1 : Int32)), .val (.int (1 : Int32)), .val (.int (1 : Int32)), .val (.int (0 : Int32)), .val (.int (0 : Int32))] [(.int (0 : Int32))])
                  refine own_go (fun t k => XS.ifNo X106.here hx rfl (hb hby at_220) rfl (by decide) k) ?_
                  show Go _ _ _ _ _ T106 (mkF m 223 #[.val (.int p1), .val (.long p2), .second, .val (.int p3), .val (.int p4), .val (.int p5), .val (.long p6), .second, .val (.int q8), .val (.long q9), .second, .val (.int q11), .val (.int q12), .val (.int (1 : Int32)), .val (.ref b97), .val (.ref b99), .val (.ref b101), .val (.int (1 : Int32)), .val (.int (1 : Int32)), .val (.int (1 : Int32)), .val (.int (0 : Int32)), .val (.int (0 : Int32))] [])
                  refine own_go (fun t k => XS.iconst X106.here hx rfl (hb hby at_223) k) ?_
                  show Go _ _ _ _ _ T106 (mkF m 224 #[.val (.int p1), .val (.long p2), .second, .val (.int p3), .val (.int p4), .val (.int p5), .val (.long p6), .second, .val (.int q8), .val (.long q9), .second, .val (.int q11), .val (.int q12), .val (.int (1 : Int32)), .val (.ref b97), .val (.ref b99), .val (.ref b101), .val (.int (1 : Int32)), .val (.int (1 : Int32)), .val (.int (1 : Int32)), .val (.int (0 : Int32)), .val (.int (0 : Int32))] [(.int (1 : Int32))])
                  refine own_go (fun t k => XS.goto X106.here hx rfl (pc0 := 224) (pc' := 228) rfl (hb hby at_224) (by decide) (by decide) k) ?_
                  show Go _ _ _ _ _ T106 (mkF m 228 #[.val (.int p1), .val (.long p2), .second, .val (.int p3), .val (.int p4), .val (.int p5), .val (.long p6), .second, .val (.int q8), .val (.long q9), .second, .val (.int q11), .val (.int q12), .val (.int (1 : Int32)), .val (.ref b97), .val (.ref b99), .val (.ref b101), .val (.int (1 : Int32)), .val (.int (1 : Int32)), .val (.int (1 : Int32)), .val (.int (0 : Int32)), .val (.int (0 : Int32))] [(.int (1 : Int32))])
                  refine own_retN X106 hx (own_lvN X106 hlk (by decide) (by decide)) (t := .boolean) hret (by simp) (hb hby at_228) ?_
                  exact ⟨rfl, N106⟩
        show Go _ _ _ _ _ s₁ (mkF m 61 #[.val (.int p1), .val (.long p2), .second, .val (.int p3), .val (.int p4), .val (.int p5), .val (.long p6), .second, .val (.int q8), .val (.long q9), .second, .val (.int q11), .unset, .unset, .unset, .unset, .unset, .unset, .unset, .unset, .unset, .unset] [(.int (p5 &&& (8 : Int32)))])
        refine own_ifP ((p5 &&& (8 : Int32)) = (0 : Int32)) X0 hx (hb hby at_61) (own_eq _ _) (by decide) (by decide) (pc' := 69) (fun hc107 => ?_) (fun hc107 => ?_)
        · skip
          show Go _ _ _ _ _ s₁ (mkF m 69 #[.val (.int p1), .val (.long p2), .second, .val (.int p3), .val (.int p4), .val (.int p5), .val (.long p6), .second, .val (.int q8), .val (.long q9), .second, .val (.int q11), .unset, .unset, .unset, .unset, .unset, .unset, .unset, .unset, .unset, .unset] [])
          refine own_go (fun t k => XS.iload X0.here hx rfl (hb hby at_69) rfl k) ?_
          show Go _ _ _ _ _ s₁ (mkF m 71 #[.val (.int p1), .val (.long p2), .second, .val (.int p3), .val (.int p4), .val (.int p5), .val (.long p6), .second, .val (.int q8), .val (.long q9), .second, .val (.int q11), .unset, .unset, .unset, .unset, .unset, .unset, .unset, .unset, .unset, .unset] [(.int p4)])
          refine own_go (fun t k => XS.lload X0.here hx rfl (hb hby at_71) rfl k) ?_
          show Go _ _ _ _ _ s₁ (mkF m 73 #[.val (.int p1), .val (.long p2), .second, .val (.int p3), .val (.int p4), .val (.int p5), .val (.long p6), .second, .val (.int q8), .val (.long q9), .second, .val (.int q11), .unset, .unset, .unset, .unset, .unset, .unset, .unset, .unset, .unset, .unset] [(.long p6), (.int p4)])
          refine own_go (fun t k => XS.bipush X0.here hx rfl (hb hby at_73) k) ?_
          show Go _ _ _ _ _ s₁ (mkF m 75 #[.val (.int p1), .val (.long p2), .second, .val (.int p3), .val (.int p4), .val (.int p5), .val (.long p6), .second, .val (.int q8), .val (.long q9), .second, .val (.int q11), .unset, .unset, .unset, .unset, .unset, .unset, .unset, .unset, .unset, .unset] [(.int (16 : Int32)), (.long p6), (.int p4)])
          refine own_go (fun t k => XS.lushr X0.here hx rfl (hb hby at_75) rfl k) ?_
          show Go _ _ _ _ _ s₁ (mkF m 76 #[.val (.int p1), .val (.long p2), .second, .val (.int p3), .val (.int p4), .val (.int p5), .val (.long p6), .second, .val (.int q8), .val (.long q9), .second, .val (.int q11), .unset, .unset, .unset, .unset, .unset, .unset, .unset, .unset, .unset, .unset] [(.long ((p6.toUInt64 >>> ((16 : Int32) &&& 0x3f).toInt64.toUInt64).toInt64)), (.int p4)])
          refine own_go (fun t k => XS.l2i X0.here hx rfl (hb hby at_76) rfl k) ?_
          show Go _ _ _ _ _ s₁ (mkF m 77 #[.val (.int p1), .val (.long p2), .second, .val (.int p3), .val (.int p4), .val (.int p5), .val (.long p6), .second, .val (.int q8), .val (.long q9), .second, .val (.int q11), .unset, .unset, .unset, .unset, .unset, .unset, .unset, .unset, .unset, .unset] [(.int (((p6.toUInt64 >>> ((16 : Int32) &&& 0x3f).toInt64.toUInt64).toInt64).toInt32)), (.int p4)])
          refine own_go (fun t k => XS.ixor X0.here hx rfl (hb hby at_77) rfl k) ?_
          show Go _ _ _ _ _ s₁ (mkF m 78 #[.val (.int p1), .val (.long p2), .second, .val (.int p3), .val (.int p4), .val (.int p5), .val (.long p6), .second, .val (.int q8), .val (.long q9), .second, .val (.int q11), .unset, .unset, .unset, .unset, .unset, .unset, .unset, .unset, .unset, .unset] [(.int (p4 ^^^ (((p6.toUInt64 >>> ((16 : Int32) &&& 0x3f).toInt64.toUInt64).toInt64).toInt32)))])
          refine own_go (fun t k => XS.istore X0.here hx rfl (hb hby at_78) rfl (l' := #[.val (.int p1), .val (.long p2), .second, .val (.int p3), .val (.int p4), .val (.int p5), .val (.long p6), .second, .val (.int q8), .val (.long q9), .second, .val (.int q11), .val (.int (p4 ^^^ (((p6.toUInt64 >>> ((16 : Int32) &&& 0x3f).toInt64.toUInt64).toInt64).toInt32))), .unset, .unset, .unset, .unset, .unset, .unset, .unset, .unset, .unset]) rfl k) ?_
          show Go _ _ _ _ _ s₁ (mkF m 80 #[.val (.int p1), .val (.long p2), .second, .val (.int p3), .val (.int p4), .val (.int p5), .val (.long p6), .second, .val (.int q8), .val (.long q9), .second, .val (.int q11), .val (.int (p4 ^^^ (((p6.toUInt64 >>> ((16 : Int32) &&& 0x3f).toInt64.toUInt64).toInt64).toInt32))), .unset, .unset, .unset, .unset, .unset, .unset, .unset, .unset, .unset] [])
          exact J52 (p4 ^^^ (((p6.toUInt64 >>> ((16 : Int32) &&& 0x3f).toInt64.toUInt64).toInt64).toInt32))
        · skip
          show Go _ _ _ _ _ s₁ (mkF m 64 #[.val (.int p1), .val (.long p2), .second, .val (.int p3), .val (.int p4), .val (.int p5), .val (.long p6), .second, .val (.int q8), .val (.long q9), .second, .val (.int q11), .unset, .unset, .unset, .unset, .unset, .unset, .unset, .unset, .unset, .unset] [])
          refine own_go (fun t k => XS.iload X0.here hx rfl (hb hby at_64) rfl k) ?_
          show Go _ _ _ _ _ s₁ (mkF m 66 #[.val (.int p1), .val (.long p2), .second, .val (.int p3), .val (.int p4), .val (.int p5), .val (.long p6), .second, .val (.int q8), .val (.long q9), .second, .val (.int q11), .unset, .unset, .unset, .unset, .unset, .unset, .unset, .unset, .unset, .unset] [(.int p4)])
          refine own_go (fun t k => XS.goto X0.here hx rfl (pc0 := 66) (pc' := 78) rfl (hb hby at_66) (by decide) (by decide) k) ?_
          show Go _ _ _ _ _ s₁ (mkF m 78 #[.val (.int p1), .val (.long p2), .second, .val (.int p3), .val (.int p4), .val (.int p5), .val (.long p6), .second, .val (.int q8), .val (.long q9), .second, .val (.int q11), .unset, .unset, .unset, .unset, .unset, .unset, .unset, .unset, .unset, .unset] [(.int p4)])
          refine own_go (fun t k => XS.istore X0.here hx rfl (hb hby at_78) rfl (l' := #[.val (.int p1), .val (.long p2), .second, .val (.int p3), .val (.int p4), .val (.int p5), .val (.long p6), .second, .val (.int q8), .val (.long q9), .second, .val (.int q11), .val (.int p4), .unset, .unset, .unset, .unset, .unset, .unset, .unset, .unset, .unset]) rfl k) ?_
          show Go _ _ _ _ _ s₁ (mkF m 80 #[.val (.int p1), .val (.long p2), .second, .val (.int p3), .val (.int p4), .val (.int p5), .val (.long p6), .second, .val (.int q8), .val (.long q9), .second, .val (.int q11), .val (.int p4), .unset, .unset, .unset, .unset, .unset, .unset, .unset, .unset, .unset] [])
          exact J52 p4
      show Go _ _ _ _ _ s₁ (mkF m 39 #[.val (.int p1), .val (.long p2), .second, .val (.int p3), .val (.int p4), .val (.int p5), .val (.long p6), .second, .val (.int q8), .val (.long q9), .second, .unset, .unset, .unset, .unset, .unset, .unset, .unset, .unset, .unset, .unset, .unset] [(.int (p5 &&& (4 : Int32)))])
      refine own_ifP ((p5 &&& (4 : Int32)) = (0 : Int32)) X0 hx (hb hby at_39) (own_eq _ _) (by decide) (by decide) (pc' := 46) (fun hc108 => ?_) (fun hc108 => ?_)
      · skip
        show Go _ _ _ _ _ s₁ (mkF m 46 #[.val (.int p1), .val (.long p2), .second, .val (.int p3), .val (.int p4), .val (.int p5), .val (.long p6), .second, .val (.int q8), .val (.long q9), .second, .unset, .unset, .unset, .unset, .unset, .unset, .unset, .unset, .unset, .unset, .unset] [])
        refine own_go (fun t k => XS.iloadN X0.here hx rfl (hb hby at_46) rfl k) ?_
        show Go _ _ _ _ _ s₁ (mkF m 47 #[.val (.int p1), .val (.long p2), .second, .val (.int p3), .val (.int p4), .val (.int p5), .val (.long p6), .second, .val (.int q8), .val (.long q9), .second, .unset, .unset, .unset, .unset, .unset, .unset, .unset, .unset, .unset, .unset, .unset] [(.int p3)])
        refine own_go (fun t k => XS.lload X0.here hx rfl (hb hby at_47) rfl k) ?_
        show Go _ _ _ _ _ s₁ (mkF m 49 #[.val (.int p1), .val (.long p2), .second, .val (.int p3), .val (.int p4), .val (.int p5), .val (.long p6), .second, .val (.int q8), .val (.long q9), .second, .unset, .unset, .unset, .unset, .unset, .unset, .unset, .unset, .unset, .unset, .unset] [(.long p6), (.int p3)])
        refine own_go (fun t k => XS.bipush X0.here hx rfl (hb hby at_49) k) ?_
        show Go _ _ _ _ _ s₁ (mkF m 51 #[.val (.int p1), .val (.long p2), .second, .val (.int p3), .val (.int p4), .val (.int p5), .val (.long p6), .second, .val (.int q8), .val (.long q9), .second, .unset, .unset, .unset, .unset, .unset, .unset, .unset, .unset, .unset, .unset, .unset] [(.int (32 : Int32)), (.long p6), (.int p3)])
        refine own_go (fun t k => XS.lushr X0.here hx rfl (hb hby at_51) rfl k) ?_
        show Go _ _ _ _ _ s₁ (mkF m 52 #[.val (.int p1), .val (.long p2), .second, .val (.int p3), .val (.int p4), .val (.int p5), .val (.long p6), .second, .val (.int q8), .val (.long q9), .second, .unset, .unset, .unset, .unset, .unset, .unset, .unset, .unset, .unset, .unset, .unset] [(.long ((p6.toUInt64 >>> ((32 : Int32) &&& 0x3f).toInt64.toUInt64).toInt64)), (.int p3)])
        refine own_go (fun t k => XS.l2i X0.here hx rfl (hb hby at_52) rfl k) ?_
        show Go _ _ _ _ _ s₁ (mkF m 53 #[.val (.int p1), .val (.long p2), .second, .val (.int p3), .val (.int p4), .val (.int p5), .val (.long p6), .second, .val (.int q8), .val (.long q9), .second, .unset, .unset, .unset, .unset, .unset, .unset, .unset, .unset, .unset, .unset, .unset] [(.int (((p6.toUInt64 >>> ((32 : Int32) &&& 0x3f).toInt64.toUInt64).toInt64).toInt32)), (.int p3)])
        refine own_go (fun t k => XS.ixor X0.here hx rfl (hb hby at_53) rfl k) ?_
        show Go _ _ _ _ _ s₁ (mkF m 54 #[.val (.int p1), .val (.long p2), .second, .val (.int p3), .val (.int p4), .val (.int p5), .val (.long p6), .second, .val (.int q8), .val (.long q9), .second, .unset, .unset, .unset, .unset, .unset, .unset, .unset, .unset, .unset, .unset, .unset] [(.int (p3 ^^^ (((p6.toUInt64 >>> ((32 : Int32) &&& 0x3f).toInt64.toUInt64).toInt64).toInt32)))])
        refine own_go (fun t k => XS.istore X0.here hx rfl (hb hby at_54) rfl (l' := #[.val (.int p1), .val (.long p2), .second, .val (.int p3), .val (.int p4), .val (.int p5), .val (.long p6), .second, .val (.int q8), .val (.long q9), .second, .val (.int (p3 ^^^ (((p6.toUInt64 >>> ((32 : Int32) &&& 0x3f).toInt64.toUInt64).toInt64).toInt32))), .unset, .unset, .unset, .unset, .unset, .unset, .unset, .unset, .unset, .unset]) rfl k) ?_
        show Go _ _ _ _ _ s₁ (mkF m 56 #[.val (.int p1), .val (.long p2), .second, .val (.int p3), .val (.int p4), .val (.int p5), .val (.long p6), .second, .val (.int q8), .val (.long q9), .second, .val (.int (p3 ^^^ (((p6.toUInt64 >>> ((32 : Int32) &&& 0x3f).toInt64.toUInt64).toInt64).toInt32))), .unset, .unset, .unset, .unset, .unset, .unset, .unset, .unset, .unset, .unset] [])
        exact J51 (p3 ^^^ (((p6.toUInt64 >>> ((32 : Int32) &&& 0x3f).toInt64.toUInt64).toInt64).toInt32))
      · skip
        show Go _ _ _ _ _ s₁ (mkF m 42 #[.val (.int p1), .val (.long p2), .second, .val (.int p3), .val (.int p4), .val (.int p5), .val (.long p6), .second, .val (.int q8), .val (.long q9), .second, .unset, .unset, .unset, .unset, .unset, .unset, .unset, .unset, .unset, .unset, .unset] [])
        refine own_go (fun t k => XS.iloadN X0.here hx rfl (hb hby at_42) rfl k) ?_
        show Go _ _ _ _ _ s₁ (mkF m 43 #[.val (.int p1), .val (.long p2), .second, .val (.int p3), .val (.int p4), .val (.int p5), .val (.long p6), .second, .val (.int q8), .val (.long q9), .second, .unset, .unset, .unset, .unset, .unset, .unset, .unset, .unset, .unset, .unset, .unset] [(.int p3)])
        refine own_go (fun t k => XS.goto X0.here hx rfl (pc0 := 43) (pc' := 54) rfl (hb hby at_43) (by decide) (by decide) k) ?_
        show Go _ _ _ _ _ s₁ (mkF m 54 #[.val (.int p1), .val (.long p2), .second, .val (.int p3), .val (.int p4), .val (.int p5), .val (.long p6), .second, .val (.int q8), .val (.long q9), .second, .unset, .unset, .unset, .unset, .unset, .unset, .unset, .unset, .unset, .unset, .unset] [(.int p3)])
        refine own_go (fun t k => XS.istore X0.here hx rfl (hb hby at_54) rfl (l' := #[.val (.int p1), .val (.long p2), .second, .val (.int p3), .val (.int p4), .val (.int p5), .val (.long p6), .second, .val (.int q8), .val (.long q9), .second, .val (.int p3), .unset, .unset, .unset, .unset, .unset, .unset, .unset, .unset, .unset, .unset]) rfl k) ?_
        show Go _ _ _ _ _ s₁ (mkF m 56 #[.val (.int p1), .val (.long p2), .second, .val (.int p3), .val (.int p4), .val (.int p5), .val (.long p6), .second, .val (.int q8), .val (.long q9), .second, .val (.int p3), .unset, .unset, .unset, .unset, .unset, .unset, .unset, .unset, .unset, .unset] [])
        exact J51 p3
    show Go _ _ _ _ _ s₁ (mkF m 22 #[.val (.int p1), .val (.long p2), .second, .val (.int p3), .val (.int p4), .val (.int p5), .val (.long p6), .second, .val (.int q8), .unset, .unset, .unset, .unset, .unset, .unset, .unset, .unset, .unset, .unset, .unset, .unset, .unset] [(.int (p5 &&& (2 : Int32)))])
    refine own_ifP ((p5 &&& (2 : Int32)) = (0 : Int32)) X0 hx (hb hby at_22) (own_eq _ _) (by decide) (by decide) (pc' := 29) (fun hc109 => ?_) (fun hc109 => ?_)
    · skip
      show Go _ _ _ _ _ s₁ (mkF m 29 #[.val (.int p1), .val (.long p2), .second, .val (.int p3), .val (.int p4), .val (.int p5), .val (.long p6), .second, .val (.int q8), .unset, .unset, .unset, .unset, .unset, .unset, .unset, .unset, .unset, .unset, .unset, .unset, .unset] [])
      refine own_go (fun t k => XS.lloadN X0.here hx rfl (hb hby at_29) rfl k) ?_
      show Go _ _ _ _ _ s₁ (mkF m 30 #[.val (.int p1), .val (.long p2), .second, .val (.int p3), .val (.int p4), .val (.int p5), .val (.long p6), .second, .val (.int q8), .unset, .unset, .unset, .unset, .unset, .unset, .unset, .unset, .unset, .unset, .unset, .unset, .unset] [(.long p2)])
      refine own_go (fun t k => XS.lload X0.here hx rfl (hb hby at_30) rfl k) ?_
      show Go _ _ _ _ _ s₁ (mkF m 32 #[.val (.int p1), .val (.long p2), .second, .val (.int p3), .val (.int p4), .val (.int p5), .val (.long p6), .second, .val (.int q8), .unset, .unset, .unset, .unset, .unset, .unset, .unset, .unset, .unset, .unset, .unset, .unset, .unset] [(.long p6), (.long p2)])
      refine own_go (fun t k => XS.lxor X0.here hx rfl (hb hby at_32) rfl k) ?_
      show Go _ _ _ _ _ s₁ (mkF m 33 #[.val (.int p1), .val (.long p2), .second, .val (.int p3), .val (.int p4), .val (.int p5), .val (.long p6), .second, .val (.int q8), .unset, .unset, .unset, .unset, .unset, .unset, .unset, .unset, .unset, .unset, .unset, .unset, .unset] [(.long (p2 ^^^ p6))])
      refine own_go (fun t k => XS.lstore X0.here hx rfl (hb hby at_33) rfl (l' := #[.val (.int p1), .val (.long p2), .second, .val (.int p3), .val (.int p4), .val (.int p5), .val (.long p6), .second, .val (.int q8), .val (.long (p2 ^^^ p6)), .second, .unset, .unset, .unset, .unset, .unset, .unset, .unset, .unset, .unset, .unset, .unset]) rfl k) ?_
      show Go _ _ _ _ _ s₁ (mkF m 35 #[.val (.int p1), .val (.long p2), .second, .val (.int p3), .val (.int p4), .val (.int p5), .val (.long p6), .second, .val (.int q8), .val (.long (p2 ^^^ p6)), .second, .unset, .unset, .unset, .unset, .unset, .unset, .unset, .unset, .unset, .unset, .unset] [])
      exact J50 (p2 ^^^ p6)
    · skip
      show Go _ _ _ _ _ s₁ (mkF m 25 #[.val (.int p1), .val (.long p2), .second, .val (.int p3), .val (.int p4), .val (.int p5), .val (.long p6), .second, .val (.int q8), .unset, .unset, .unset, .unset, .unset, .unset, .unset, .unset, .unset, .unset, .unset, .unset, .unset] [])
      refine own_go (fun t k => XS.lloadN X0.here hx rfl (hb hby at_25) rfl k) ?_
      show Go _ _ _ _ _ s₁ (mkF m 26 #[.val (.int p1), .val (.long p2), .second, .val (.int p3), .val (.int p4), .val (.int p5), .val (.long p6), .second, .val (.int q8), .unset, .unset, .unset, .unset, .unset, .unset, .unset, .unset, .unset, .unset, .unset, .unset, .unset] [(.long p2)])
      refine own_go (fun t k => XS.goto X0.here hx rfl (pc0 := 26) (pc' := 33) rfl (hb hby at_26) (by decide) (by decide) k) ?_
      show Go _ _ _ _ _ s₁ (mkF m 33 #[.val (.int p1), .val (.long p2), .second, .val (.int p3), .val (.int p4), .val (.int p5), .val (.long p6), .second, .val (.int q8), .unset, .unset, .unset, .unset, .unset, .unset, .unset, .unset, .unset, .unset, .unset, .unset, .unset] [(.long p2)])
      refine own_go (fun t k => XS.lstore X0.here hx rfl (hb hby at_33) rfl (l' := #[.val (.int p1), .val (.long p2), .second, .val (.int p3), .val (.int p4), .val (.int p5), .val (.long p6), .second, .val (.int q8), .val (.long p2), .second, .unset, .unset, .unset, .unset, .unset, .unset, .unset, .unset, .unset, .unset, .unset]) rfl k) ?_
      show Go _ _ _ _ _ s₁ (mkF m 35 #[.val (.int p1), .val (.long p2), .second, .val (.int p3), .val (.int p4), .val (.int p5), .val (.long p6), .second, .val (.int q8), .val (.long p2), .second, .unset, .unset, .unset, .unset, .unset, .unset, .unset, .unset, .unset, .unset, .unset] [])
      exact J50 p2
  show Go _ _ _ _ _ s₁ (mkF m 4 #[.val (.int p1), .val (.long p2), .second, .val (.int p3), .val (.int p4), .val (.int p5), .val (.long p6), .second, .unset, .unset, .unset, .unset, .unset, .unset, .unset, .unset, .unset, .unset, .unset, .unset, .unset, .unset] [(.int (p5 &&& (1 : Int32)))])
  refine own_ifP ((p5 &&& (1 : Int32)) = (0 : Int32)) X0 hx (hb hby at_4) (own_eq _ _) (by decide) (by decide) (pc' := 11) (fun hc110 => ?_) (fun hc110 => ?_)
  · skip
    show Go _ _ _ _ _ s₁ (mkF m 11 #[.val (.int p1), .val (.long p2), .second, .val (.int p3), .val (.int p4), .val (.int p5), .val (.long p6), .second, .unset, .unset, .unset, .unset, .unset, .unset, .unset, .unset, .unset, .unset, .unset, .unset, .unset, .unset] [])
    refine own_go (fun t k => XS.iloadN X0.here hx rfl (hb hby at_11) rfl k) ?_
    show Go _ _ _ _ _ s₁ (mkF m 12 #[.val (.int p1), .val (.long p2), .second, .val (.int p3), .val (.int p4), .val (.int p5), .val (.long p6), .second, .unset, .unset, .unset, .unset, .unset, .unset, .unset, .unset, .unset, .unset, .unset, .unset, .unset, .unset] [(.int p1)])
    refine own_go (fun t k => XS.lload X0.here hx rfl (hb hby at_12) rfl k) ?_
    show Go _ _ _ _ _ s₁ (mkF m 14 #[.val (.int p1), .val (.long p2), .second, .val (.int p3), .val (.int p4), .val (.int p5), .val (.long p6), .second, .unset, .unset, .unset, .unset, .unset, .unset, .unset, .unset, .unset, .unset, .unset, .unset, .unset, .unset] [(.long p6), (.int p1)])
    refine own_go (fun t k => XS.l2i X0.here hx rfl (hb hby at_14) rfl k) ?_
    show Go _ _ _ _ _ s₁ (mkF m 15 #[.val (.int p1), .val (.long p2), .second, .val (.int p3), .val (.int p4), .val (.int p5), .val (.long p6), .second, .unset, .unset, .unset, .unset, .unset, .unset, .unset, .unset, .unset, .unset, .unset, .unset, .unset, .unset] [(.int (p6.toInt32)), (.int p1)])
    refine own_go (fun t k => XS.ixor X0.here hx rfl (hb hby at_15) rfl k) ?_
    show Go _ _ _ _ _ s₁ (mkF m 16 #[.val (.int p1), .val (.long p2), .second, .val (.int p3), .val (.int p4), .val (.int p5), .val (.long p6), .second, .unset, .unset, .unset, .unset, .unset, .unset, .unset, .unset, .unset, .unset, .unset, .unset, .unset, .unset] [(.int (p1 ^^^ (p6.toInt32)))])
    refine own_go (fun t k => XS.istore X0.here hx rfl (hb hby at_16) rfl (l' := #[.val (.int p1), .val (.long p2), .second, .val (.int p3), .val (.int p4), .val (.int p5), .val (.long p6), .second, .val (.int (p1 ^^^ (p6.toInt32))), .unset, .unset, .unset, .unset, .unset, .unset, .unset, .unset, .unset, .unset, .unset, .unset, .unset]) rfl k) ?_
    show Go _ _ _ _ _ s₁ (mkF m 18 #[.val (.int p1), .val (.long p2), .second, .val (.int p3), .val (.int p4), .val (.int p5), .val (.long p6), .second, .val (.int (p1 ^^^ (p6.toInt32))), .unset, .unset, .unset, .unset, .unset, .unset, .unset, .unset, .unset, .unset, .unset, .unset, .unset] [])
    exact J49 (p1 ^^^ (p6.toInt32))
  · skip
    show Go _ _ _ _ _ s₁ (mkF m 7 #[.val (.int p1), .val (.long p2), .second, .val (.int p3), .val (.int p4), .val (.int p5), .val (.long p6), .second, .unset, .unset, .unset, .unset, .unset, .unset, .unset, .unset, .unset, .unset, .unset, .unset, .unset, .unset] [])
    refine own_go (fun t k => XS.iloadN X0.here hx rfl (hb hby at_7) rfl k) ?_
    show Go _ _ _ _ _ s₁ (mkF m 8 #[.val (.int p1), .val (.long p2), .second, .val (.int p3), .val (.int p4), .val (.int p5), .val (.long p6), .second, .unset, .unset, .unset, .unset, .unset, .unset, .unset, .unset, .unset, .unset, .unset, .unset, .unset, .unset] [(.int p1)])
    refine own_go (fun t k => XS.goto X0.here hx rfl (pc0 := 8) (pc' := 16) rfl (hb hby at_8) (by decide) (by decide) k) ?_
    show Go _ _ _ _ _ s₁ (mkF m 16 #[.val (.int p1), .val (.long p2), .second, .val (.int p3), .val (.int p4), .val (.int p5), .val (.long p6), .second, .unset, .unset, .unset, .unset, .unset, .unset, .unset, .unset, .unset, .unset, .unset, .unset, .unset, .unset] [(.int p1)])
    refine own_go (fun t k => XS.istore X0.here hx rfl (hb hby at_16) rfl (l' := #[.val (.int p1), .val (.long p2), .second, .val (.int p3), .val (.int p4), .val (.int p5), .val (.long p6), .second, .val (.int p1), .unset, .unset, .unset, .unset, .unset, .unset, .unset, .unset, .unset, .unset, .unset, .unset, .unset]) rfl k) ?_
    show Go _ _ _ _ _ s₁ (mkF m 18 #[.val (.int p1), .val (.long p2), .second, .val (.int p3), .val (.int p4), .val (.int p5), .val (.long p6), .second, .val (.int p1), .unset, .unset, .unset, .unset, .unset, .unset, .unset, .unset, .unset, .unset, .unset, .unset, .unset] [])
    exact J49 p1
set_option maxRecDepth 65536 in
set_option maxHeartbeats 40000000 in
theorem comes_1 {Post : Tables → Env → Array Value → State → Outcome → State → Prop} (hpost : ∀ tb e args s v u, (limb_1_1.after args s (.returned v) u = true ∧ limb_1_2.after args s (.returned v) u = true ∧ True) → FrameEnd s (.returned v) u (Jvm.fieldLocs frame_1_writes args s ++ Jvm.arrayLocs frame_1_arrays args s ++ Jvm.staticLocs frame_1_statics s) 16 128 → Post tb e args s (.returned v) u) :
    ArmFor flags0 classFile x code maxLocals ret World_1 tables_1 room_1 Calls_1 rest_1 Pre_1 Post := by
  intro l hfl _ _ p e ha hc hk s m args below hf hA hF happ hP
  obtain ⟨hcalls, hrest, hpre⟩ := hP
  obtain ⟨-, -, -, hnamed, -, -, -, hat⟩ := (Spec.applies_iff hf).mp happ
  obtain ⟨hg, hn⟩ := and_e (Cond.before_iff.mp (show (Jvm.Cond.and given_1 narrow_1).before args s = true from hpre))
  obtain ⟨g1, g2⟩ := and_e hg
  obtain ⟨g3, g4⟩ := and_e g2
  obtain ⟨g5, g6⟩ := and_e g4
  obtain ⟨g7, g8⟩ := and_e g6
  obtain ⟨g9, g10⟩ := and_e g8
  obtain ⟨g11, g12⟩ := and_e g10
  obtain ⟨w0, w1, w2, w3, w4, w5, rfl⟩ : ∃ w0 w1 w2 w3 w4 w5 : Value, args = #[w0, w1, w2, w3, w4, w5] := by
    have hs : args.size = 6 := by simpa [Cond.value, given_1] using g1
    obtain ⟨L⟩ := args
    match L, hs with
    | [w0, w1, w2, w3, w4, w5], _ => exact ⟨w0, w1, w2, w3, w4, w5, rfl⟩
  have hw := fun d (hd : d ∈ tables_1) => atoms_spec (ws := Jvm.Cond.code x code maxLocals ret :: tables_1) hat d (List.mem_cons_of_mem _ hd)
  obtain ⟨hsets, hown0⟩ := atoms_of _ (rest_1_c_eq ▸ (show rest_1_c.before _ s = true from hrest))
  obtain ⟨i0, ei0⟩ := is_v g3
  obtain rfl : w0 = (.int i0) := Option.some.inj ei0
  obtain ⟨i1, ei1⟩ := isL_v g5
  obtain rfl : w1 = (.long i1) := Option.some.inj ei1
  obtain ⟨i2, ei2⟩ := is_v g7
  obtain rfl : w2 = (.int i2) := Option.some.inj ei2
  obtain ⟨i3, ei3⟩ := is_v g9
  obtain rfl : w3 = (.int i3) := Option.some.inj ei3
  obtain ⟨i4, ei4⟩ := is_v g11
  obtain rfl : w4 = (.int i4) := Option.some.inj ei4
  obtain ⟨i5, ei5⟩ := isL_v g12
  obtain rfl : w5 = (.long i5) := Option.some.inj ei5
  obtain ⟨ca, eca⟩ := arr_v (Cond.before_iff.mp (hsets _ (List.mem_of_getElem? (i := 4) rfl)))
  have eh := own_high (Cond.before_iff.mp (hsets _ (List.mem_of_getElem? (i := 3) rfl)))
  have S_high := Sta.start eh (Or.inl (hsets _ (List.mem_of_getElem? (i := 1) rfl)))
  have S_cache := Sta.start eca (Or.inr ⟨(hw _ (List.mem_of_getElem? (i := 22) rfl)), (hsets _ (List.mem_of_getElem? (i := 2) rfl))⟩)
  have Ca : OwnCache s s.heap ca := own_cache eca (Cond.before_iff.mp (hsets _ (List.mem_of_getElem? (i := 4) rfl))) (Cond.before_iff.mp (hsets _ (List.mem_of_getElem? (i := 6) rfl))) (Cond.before_iff.mp (hsets _ (List.mem_of_getElem? (i := 7) rfl)))
  obtain ⟨n, o, h1, h2, h3, _, L, rfl, ⟨rfl, N⟩, hq⟩ := rm0 l s _ hw tables_1 i0 i1 i2 i3 i4 i5  ca s.heap s.heap.size (Nat.le_refl _)  S_high S_cache Ca p e ha hc hk s m _ below hf ((Spec.applies_iff_loose hf).mp happ).1 ⟨rfl, State.Warmed39.refl s, rfl⟩ trivial
  refine ⟨n, _, h1, h2, h3, hpost _ _ _ _ _ _ ⟨Cond.after_iff.mpr rfl, Cond.after_iff.mpr (eq_i res_at (Term.int_eval (1)) rfl), trivial⟩ ⟨hq.1, hq.2.1, (hq.2.2.sift fun y hy => Or.inr (N y hy)).mono (by decide) (by decide)⟩⟩
theorem main_1_1 : Claimed_1_1 := comes_1 fun _ _ _ _ _ _ h hF => ⟨h.1, hF⟩
theorem main_1_2 : Claimed_1_2 := comes_1 fun _ _ _ _ _ _ h hF => ⟨h.2.1, hF⟩
end Jvm.Pilot.@@N@@
namespace Jvm.Pilot.@@N@@
open Jvm Jvm.ClassFile Sem Op Lib Jvm.Free Jvm.Stand Jvm.Pilot.@@N@@.Jvm.D
/-! MADE BY PROGRAM (witnessworld.py) out of the Statement's table words and the real class files: 16 classes; the members and pool entries that the words name. The judged class is class 1, her method 1. -/
namespace start1
open Jvm.ClassFile
def u (s : String) : CpInfo := .utf8 (stringToUtf16 s)
/-- a pool by its gaps: so many unusable entries, then the entry; so many at the end -/
def gap : Nat → List CpInfo → List CpInfo
  | 0, r => r
  | n + 1, r => .unusable :: gap n r
def poolList (es : List (Nat × CpInfo)) (last : Nat) : List CpInfo := es.foldr (fun e r => gap e.1 (e.2 :: r)) (gap last [])
def pool (es : List (Nat × CpInfo)) (last : Nat) : Array CpInfo := ⟨poolList es last⟩
def fileOf (pool : Array CpInfo) (this : Nat) (attrs : Array Attribute := #[]) (ms : Array MethodInfo := #[]) (fl : Nat := 33) (sup : Nat := 0) (ifs : Array Nat := #[]) (fds : Array FieldInfo := #[]) : ClassFile where
  minorVersion := 0
  majorVersion := 65
  constantPool := pool
  accessFlags := fl
  thisClass := this
  superClass := sup
  interfaces := ifs
  fields := fds
  methods := ms
  attributes := attrs
def plain (name : String) (sup : Option ClassId) : Class where
  name := name
  kind := .ordinary
  loader := none
  accessFlags := 33
  super := sup
  interfaces := #[]
  cf := none
  fields := #[]
  methods := #[]
  instanceTypes := #[]
  staticTypes := #[]
  resolved := #[]
  callSites := []
  init := .initialized
  statics := none
  mirror := none

def pool0 : Array CpInfo := pool [(5, u "<init>"), (0, u "()V"), (1, .class_ 10), (1, u "java/lang/Object")] 113

def k0c0 : Code := { maxStack := 0, maxLocals := 1, code := object_method_1_code, exceptionTable := #[], attributes := #[] }
def k0m0 : Method := { name := "<init>", desc := "()V", sig := { parameters := [], returnType := none }, accessFlags := 1, code := some k0c0 }
/-- java/lang/Object -/
def k0 : Class := { plain "java/lang/Object" none with
  accessFlags := 33
  interfaces := #[]
  cf := some (fileOf pool0 8 #[] #[{ accessFlags := 1, nameIndex := 5, descriptorIndex := 6, attributes := #[] }] 33 0 #[] #[])
  fields := #[]
  methods := #[k0m0]
  instanceTypes := #[]
  staticTypes := #[]
  resolved := Array.replicate 124 none
  statics := none }

def pool1 : Array CpInfo := pool [(2, .class_ 4), (1, u "java/lang/Object"), (0, u "<init>"), (0, u "()V"), (0, .class_ 8), (0, u "com/example/term_weight_evolver/termweightevolver/constraints/Probe"), (0, .methodref 7 10), (0, .nameAndType 5 11), (0, u "(IJII)V"), (0, .methodref 13 14), (0, .class_ 15), (0, .nameAndType 16 17), (0, u "java/lang/Integer"), (0, u "valueOf"), (0, u "(I)Ljava/lang/Integer;"), (0, .methodref 7 19), (0, .nameAndType 20 21), (0, u "equals"), (0, u "(Ljava/lang/Object;)Z"), (0, .class_ 23), (0, u "com/example/term_weight_evolver/termweightevolver/constraints/ProbeEqualsPinLaw"), (2, u "law"), (0, u "(IJIIIJ)Z")] 3

def k1m0 : Method := { name := "<init>", desc := "()V", sig := { parameters := [], returnType := none }, accessFlags := 1, code := none }
def k1c1 : Code := { maxStack := 7, maxLocals := 22, code := code, exceptionTable := #[], attributes := #[] }
def k1m1 : Method := { name := "law", desc := "(IJIIIJ)Z", sig := { parameters := [.int, .long, .int, .int, .int, .long], returnType := some .boolean }, accessFlags := 9, code := some k1c1 }
/-- com/example/term_weight_evolver/termweightevolver/constraints/ProbeEqualsPinLaw -/
def k1 : Class := { plain "com/example/term_weight_evolver/termweightevolver/constraints/ProbeEqualsPinLaw" (some 0) with
  accessFlags := 49
  interfaces := #[]
  cf := some (fileOf pool1 22 #[] #[{ accessFlags := 1, nameIndex := 5, descriptorIndex := 6, attributes := #[] }, { accessFlags := 9, nameIndex := 26, descriptorIndex := 27, attributes := #[] }] 49 2 #[] #[])
  fields := #[]
  methods := #[k1m0, k1m1]
  instanceTypes := #[]
  staticTypes := #[]
  resolved := Array.replicate 31 none
  statics := none }

def pool2 : Array CpInfo := pool [(1, .methodref 2 3), (0, .class_ 4), (0, .nameAndType 5 6), (0, u "java/lang/Object"), (0, u "<init>"), (0, u "()V"), (0, .fieldref 8 9), (0, .class_ 10), (0, .nameAndType 11 12), (0, u "com/example/term_weight_evolver/termweightevolver/constraints/Probe"), (0, u "df"), (0, u "I"), (0, .fieldref 8 14), (0, .nameAndType 15 16), (0, u "cf"), (0, u "J"), (0, .fieldref 8 18), (0, .nameAndType 19 12), (0, u "tf"), (0, .fieldref 8 21), (0, .nameAndType 22 12), (0, u "dl"), (21, u "(IJII)V"), (4, u "equals"), (0, u "(Ljava/lang/Object;)Z")] 21

def k2c0 : Code := { maxStack := 3, maxLocals := 6, code := prog_5_method_1_code, exceptionTable := #[], attributes := #[] }
def k2m0 : Method := { name := "<init>", desc := "(IJII)V", sig := { parameters := [.int, .long, .int, .int], returnType := none }, accessFlags := 0, code := some k2c0 }
def k2c1 : Code := { maxStack := 4, maxLocals := 3, code := prog_5_method_6_code, exceptionTable := #[], attributes := #[] }
def k2m1 : Method := { name := "equals", desc := "(Ljava/lang/Object;)Z", sig := { parameters := [(.object "java/lang/Object")], returnType := some .boolean }, accessFlags := 1, code := some k2c1 }
/-- com/example/term_weight_evolver/termweightevolver/constraints/Probe -/
def k2 : Class := { plain "com/example/term_weight_evolver/termweightevolver/constraints/Probe" (some 0) with
  accessFlags := 49
  interfaces := #[]
  cf := some (fileOf pool2 8 #[] #[{ accessFlags := 0, nameIndex := 5, descriptorIndex := 44, attributes := #[] }, { accessFlags := 1, nameIndex := 49, descriptorIndex := 50, attributes := #[] }] 49 2 #[] #[{ accessFlags := 18, nameIndex := 11, descriptorIndex := 12, attributes := #[] }, { accessFlags := 18, nameIndex := 15, descriptorIndex := 16, attributes := #[] }, { accessFlags := 18, nameIndex := 19, descriptorIndex := 12, attributes := #[] }, { accessFlags := 18, nameIndex := 22, descriptorIndex := 12, attributes := #[] }])
  fields := #[{ name := "df", type := .int, accessFlags := 18, slot := 0, constantValue := 0 }, { name := "cf", type := .long, accessFlags := 18, slot := 1, constantValue := 0 }, { name := "tf", type := .int, accessFlags := 18, slot := 2, constantValue := 0 }, { name := "dl", type := .int, accessFlags := 18, slot := 3, constantValue := 0 }]
  methods := #[k2m0, k2m1]
  instanceTypes := #[.int, .long, .int, .int]
  staticTypes := #[]
  resolved := Array.replicate 72 none
  statics := none }

def pool3 : Array CpInfo := pool [(1, .class_ 2), (0, u "java/io/Serializable"), (0, .class_ 4), (0, u "java/lang/Object")] 2

/-- java/io/Serializable -/
def k3 : Class := { plain "java/io/Serializable" (some 0) with
  accessFlags := 1537
  interfaces := #[]
  cf := some (fileOf pool3 1 #[] #[] 1537 3 #[] #[])
  fields := #[]
  methods := #[]
  instanceTypes := #[]
  staticTypes := #[]
  resolved := Array.replicate 7 none
  statics := none }

def pool4 : Array CpInfo := pool [(1, .methodref 2 3), (0, .class_ 4), (0, .nameAndType 5 6), (0, u "java/lang/Object"), (0, u "<init>"), (0, u "()V"), (1, .class_ 10), (1, u "java/lang/Number"), (2, .class_ 14), (0, u "java/io/Serializable"), (0, u "serialVersionUID"), (0, u "J")] 20

def k4c0 : Code := { maxStack := 1, maxLocals := 1, code := jdk_18_method_1_code, exceptionTable := #[], attributes := #[] }
def k4m0 : Method := { name := "<init>", desc := "()V", sig := { parameters := [], returnType := none }, accessFlags := 1, code := some k4c0 }
/-- java/lang/Number -/
def k4 : Class := { plain "java/lang/Number" (some 0) with
  accessFlags := 1057
  interfaces := #[3]
  cf := some (fileOf pool4 8 #[] #[{ accessFlags := 1, nameIndex := 5, descriptorIndex := 6, attributes := #[] }] 1057 2 #[13] #[{ accessFlags := 26, nameIndex := 15, descriptorIndex := 16, attributes := #[] }])
  fields := #[{ name := "serialVersionUID", type := .long, accessFlags := 26, slot := 0, constantValue := 0 }]
  methods := #[k4m0]
  instanceTypes := #[]
  staticTypes := #[.long]
  resolved := Array.replicate 37 none
  statics := none }

def pool5 : Array CpInfo := pool [(1, .class_ 2), (0, u "java/lang/Comparable"), (0, .class_ 4), (0, u "java/lang/Object")] 7

/-- java/lang/Comparable -/
def k5 : Class := { plain "java/lang/Comparable" (some 0) with
  accessFlags := 1537
  interfaces := #[]
  cf := some (fileOf pool5 1 #[] #[] 1537 3 #[] #[])
  fields := #[]
  methods := #[]
  instanceTypes := #[]
  staticTypes := #[]
  resolved := Array.replicate 12 none
  statics := none }

def pool6 : Array CpInfo := pool [(1, .class_ 2), (0, u "java/lang/constant/Constable"), (0, .class_ 4), (0, u "java/lang/Object")] 6

/-- java/lang/constant/Constable -/
def k6 : Class := { plain "java/lang/constant/Constable" (some 0) with
  accessFlags := 1537
  interfaces := #[]
  cf := some (fileOf pool6 1 #[] #[] 1537 3 #[] #[])
  fields := #[]
  methods := #[]
  instanceTypes := #[]
  staticTypes := #[]
  resolved := Array.replicate 11 none
  statics := none }

def pool7 : Array CpInfo := pool [(1, .class_ 2), (0, u "java/lang/constant/ConstantDesc"), (0, .class_ 4), (0, u "java/lang/Object")] 32

/-- java/lang/constant/ConstantDesc -/
def k7 : Class := { plain "java/lang/constant/ConstantDesc" (some 0) with
  accessFlags := 1537
  interfaces := #[]
  cf := some (fileOf pool7 1 #[] #[] 1537 3 #[] #[])
  fields := #[]
  methods := #[]
  instanceTypes := #[]
  staticTypes := #[]
  resolved := Array.replicate 37 none
  statics := none }

def pool8 : Array CpInfo := pool [(1, .class_ 2), (0, u "java/lang/Integer"), (16, u "digits"), (0, u "[C"), (46, u "<init>"), (17, u "DigitOnes"), (0, u "[B"), (2, u "DigitTens"), (10, .nameAndType 67 101), (0, u "()V"), (85, u "valueOf"), (0, u "(I)Ljava/lang/Integer;"), (0, .class_ 190), (0, u "java/lang/Integer$IntegerCache"), (0, .fieldref 189 192), (0, .nameAndType 193 194), (0, u "high"), (0, u "I"), (0, .fieldref 189 196), (0, .nameAndType 197 198), (0, u "cache"), (0, u "[Ljava/lang/Integer;"), (0, .methodref 1 200), (0, .nameAndType 67 201), (0, u "(I)V"), (0, .methodref 203 100), (0, .class_ 204), (0, u "java/lang/Number"), (0, .fieldref 1 206), (0, .nameAndType 207 194), (0, u "value"), (94, u "TYPE"), (0, u "Ljava/lang/Class;"), (0, .class_ 305), (0, u "java/lang/Comparable"), (0, .class_ 307), (0, u "java/lang/constant/Constable"), (0, .class_ 309), (0, u "java/lang/constant/ConstantDesc"), (0, u "MIN_VALUE"), (1, u "MAX_VALUE"), (3, u "SIZE"), (1, u "BYTES"), (1, u "serialVersionUID"), (0, u "J")] 131

def k8c0 : Code := { maxStack := 3, maxLocals := 1, code := jdk_33_method_22_code, exceptionTable := #[], attributes := #[] }
def k8m0 : Method := { name := "valueOf", desc := "(I)Ljava/lang/Integer;", sig := { parameters := [.int], returnType := some (.object "java/lang/Integer") }, accessFlags := 9, code := some k8c0 }
def k8c1 : Code := { maxStack := 2, maxLocals := 2, code := jdk_33_method_23_code, exceptionTable := #[], attributes := #[] }
def k8m1 : Method := { name := "<init>", desc := "(I)V", sig := { parameters := [.int], returnType := none }, accessFlags := 1, code := some k8c1 }
/-- java/lang/Integer -/
def k8 : Class := { plain "java/lang/Integer" (some 4) with
  accessFlags := 49
  interfaces := #[5, 6, 7]
  cf := some (fileOf pool8 1 #[.nestMembers #[189]] #[{ accessFlags := 9, nameIndex := 187, descriptorIndex := 188, attributes := #[] }, { accessFlags := 1, nameIndex := 67, descriptorIndex := 201, attributes := #[] }] 49 203 #[304, 306, 308] #[{ accessFlags := 25, nameIndex := 310, descriptorIndex := 194, attributes := #[] }, { accessFlags := 25, nameIndex := 312, descriptorIndex := 194, attributes := #[] }, { accessFlags := 25, nameIndex := 302, descriptorIndex := 303, attributes := #[] }, { accessFlags := 24, nameIndex := 19, descriptorIndex := 20, attributes := #[] }, { accessFlags := 24, nameIndex := 89, descriptorIndex := 86, attributes := #[] }, { accessFlags := 24, nameIndex := 85, descriptorIndex := 86, attributes := #[] }, { accessFlags := 18, nameIndex := 207, descriptorIndex := 194, attributes := #[] }, { accessFlags := 25, nameIndex := 316, descriptorIndex := 194, attributes := #[] }, { accessFlags := 25, nameIndex := 318, descriptorIndex := 194, attributes := #[] }, { accessFlags := 26, nameIndex := 320, descriptorIndex := 321, attributes := #[] }])
  fields := #[{ name := "MIN_VALUE", type := .int, accessFlags := 25, slot := 0, constantValue := 0 }, { name := "MAX_VALUE", type := .int, accessFlags := 25, slot := 1, constantValue := 0 }, { name := "TYPE", type := (.object "java/lang/Class"), accessFlags := 25, slot := 2, constantValue := 0 }, { name := "digits", type := (.array .char), accessFlags := 24, slot := 3, constantValue := 0 }, { name := "DigitTens", type := (.array .byte), accessFlags := 24, slot := 4, constantValue := 0 }, { name := "DigitOnes", type := (.array .byte), accessFlags := 24, slot := 5, constantValue := 0 }, { name := "value", type := .int, accessFlags := 18, slot := 0, constantValue := 0 }, { name := "SIZE", type := .int, accessFlags := 25, slot := 6, constantValue := 0 }, { name := "BYTES", type := .int, accessFlags := 25, slot := 7, constantValue := 0 }, { name := "serialVersionUID", type := .long, accessFlags := 26, slot := 8, constantValue := 0 }]
  methods := #[k8m0, k8m1]
  instanceTypes := #[.int]
  staticTypes := #[.int, .int, (.object "java/lang/Class"), (.array .char), (.array .byte), (.array .byte), .int, .int, .long]
  resolved := Array.replicate 453 none
  statics := none }

def pool9 : Array CpInfo := pool [(2, .class_ 4), (1, u "java/lang/Object"), (0, u "<init>"), (0, u "()V"), (0, .class_ 8), (0, u "java/lang/Integer"), (7, .class_ 18), (1, u "java/lang/Integer$IntegerCache"), (0, u "$assertionsDisabled"), (0, u "Z"), (26, u "high"), (0, u "I"), (8, u "archivedCache"), (0, u "[Ljava/lang/Integer;"), (12, u "cache"), (0, u "low")] 27

def k9m0 : Method := { name := "<init>", desc := "()V", sig := { parameters := [], returnType := none }, accessFlags := 2, code := none }
/-- java/lang/Integer$IntegerCache -/
def k9 : Class := { plain "java/lang/Integer$IntegerCache" (some 0) with
  accessFlags := 48
  interfaces := #[]
  cf := some (fileOf pool9 16 #[.nestHost 7] #[{ accessFlags := 2, nameIndex := 5, descriptorIndex := 6, attributes := #[] }] 48 2 #[] #[{ accessFlags := 24, nameIndex := 72, descriptorIndex := 48, attributes := #[] }, { accessFlags := 24, nameIndex := 47, descriptorIndex := 48, attributes := #[] }, { accessFlags := 24, nameIndex := 71, descriptorIndex := 58, attributes := #[] }, { accessFlags := 8, nameIndex := 57, descriptorIndex := 58, attributes := #[] }, { accessFlags := 4120, nameIndex := 19, descriptorIndex := 20, attributes := #[] }])
  fields := #[{ name := "low", type := .int, accessFlags := 24, slot := 0, constantValue := 0 }, { name := "high", type := .int, accessFlags := 24, slot := 1, constantValue := 0 }, { name := "cache", type := (.array (.object "java/lang/Integer")), accessFlags := 24, slot := 2, constantValue := 0 }, { name := "archivedCache", type := (.array (.object "java/lang/Integer")), accessFlags := 8, slot := 3, constantValue := 0 }, { name := "$assertionsDisabled", type := .boolean, accessFlags := 4120, slot := 4, constantValue := 0 }]
  methods := #[k9m0]
  instanceTypes := #[]
  staticTypes := #[.int, .int, (.array (.object "java/lang/Integer")), (.array (.object "java/lang/Integer")), .boolean]
  resolved := Array.replicate 100 none
  statics := some 0 }

def pool10 : Array CpInfo := pool [(1, u "java/lang/Cloneable"), (0, .class_ 1), (0, u "java/lang/Object"), (0, .class_ 3)] 3

/-- java/lang/Cloneable -/
def k10 : Class := { plain "java/lang/Cloneable" (some 0) with
  accessFlags := 1537
  interfaces := #[]
  cf := some (fileOf pool10 2 #[] #[] 1537 4 #[] #[])
  fields := #[]
  methods := #[]
  instanceTypes := #[]
  staticTypes := #[]
  resolved := Array.replicate 8 none
  statics := none }

/-- the primitive byte -/
def k11 : Class := { plain "byte" none with kind := .primitive 'B', accessFlags := 0x411 }
/-- [B -/
def k12 : Class := { plain "[B" (some 0) with kind := .array 11 .byte, interfaces := #[10, 3], accessFlags := 1041 }

/-- the primitive int -/
def k13 : Class := { plain "int" none with kind := .primitive 'I', accessFlags := 0x411 }
/-- [I -/
def k14 : Class := { plain "[I" (some 0) with kind := .array 13 .int, interfaces := #[10, 3], accessFlags := 1041 }

/-- [Ljava/lang/Integer; -/
def k15 : Class := { plain "[Ljava/lang/Integer;" (some 0) with kind := .array 8 (.object "java/lang/Integer"), interfaces := #[10, 3], accessFlags := 1041 }

def heap : Heap := #[{ cls := 9, slots := #[.int 0, .int 127, .ref 1, .null, .int 0], vm := .statics 9 },
  { cls := 15, slots := #[.ref 2, .ref 3, .ref 4, .ref 5, .ref 6, .ref 7, .ref 8, .ref 9, .ref 10, .ref 11, .ref 12, .ref 13, .ref 14, .ref 15, .ref 16, .ref 17, .ref 18, .ref 19, .ref 20, .ref 21, .ref 22, .ref 23, .ref 24, .ref 25, .ref 26, .ref 27, .ref 28, .ref 29, .ref 30, .ref 31, .ref 32, .ref 33, .ref 34, .ref 35, .ref 36, .ref 37, .ref 38, .ref 39, .ref 40, .ref 41, .ref 42, .ref 43, .ref 44, .ref 45, .ref 46, .ref 47, .ref 48, .ref 49, .ref 50, .ref 51, .ref 52, .ref 53, .ref 54, .ref 55, .ref 56, .ref 57, .ref 58, .ref 59, .ref 60, .ref 61, .ref 62, .ref 63, .ref 64, .ref 65, .ref 66, .ref 67, .ref 68, .ref 69, .ref 70, .ref 71, .ref 72, .ref 73, .ref 74, .ref 75, .ref 76, .ref 77, .ref 78, .ref 79, .ref 80, .ref 81, .ref 82, .ref 83, .ref 84, .ref 85, .ref 86, .ref 87, .ref 88, .ref 89, .ref 90, .ref 91, .ref 92, .ref 93, .ref 94, .ref 95, .ref 96, .ref 97, .ref 98, .ref 99, .ref 100, .ref 101, .ref 102, .ref 103, .ref 104, .ref 105, .ref 106, .ref 107, .ref 108, .ref 109, .ref 110, .ref 111, .ref 112, .ref 113, .ref 114, .ref 115, .ref 116, .ref 117, .ref 118, .ref 119, .ref 120, .ref 121, .ref 122, .ref 123, .ref 124, .ref 125, .ref 126, .ref 127, .ref 128, .ref 129, .ref 130, .ref 131, .ref 132, .ref 133, .ref 134, .ref 135, .ref 136, .ref 137, .ref 138, .ref 139, .ref 140, .ref 141, .ref 142, .ref 143, .ref 144, .ref 145, .ref 146, .ref 147, .ref 148, .ref 149, .ref 150, .ref 151, .ref 152, .ref 153, .ref 154, .ref 155, .ref 156, .ref 157, .ref 158, .ref 159, .ref 160, .ref 161, .ref 162, .ref 163, .ref 164, .ref 165, .ref 166, .ref 167, .ref 168, .ref 169, .ref 170, .ref 171, .ref 172, .ref 173, .ref 174, .ref 175, .ref 176, .ref 177, .ref 178, .ref 179, .ref 180, .ref 181, .ref 182, .ref 183, .ref 184, .ref 185, .ref 186, .ref 187, .ref 188, .ref 189, .ref 190, .ref 191, .ref 192, .ref 193, .ref 194, .ref 195, .ref 196, .ref 197, .ref 198, .ref 199, .ref 200, .ref 201, .ref 202, .ref 203, .ref 204, .ref 205, .ref 206, .ref 207, .ref 208, .ref 209, .ref 210, .ref 211, .ref 212, .ref 213, .ref 214, .ref 215, .ref 216, .ref 217, .ref 218, .ref 219, .ref 220, .ref 221, .ref 222, .ref 223, .ref 224, .ref 225, .ref 226, .ref 227, .ref 228, .ref 229, .ref 230, .ref 231, .ref 232, .ref 233, .ref 234, .ref 235, .ref 236, .ref 237, .ref 238, .ref 239, .ref 240, .ref 241, .ref 242, .ref 243, .ref 244, .ref 245, .ref 246, .ref 247, .ref 248, .ref 249, .ref 250, .ref 251, .ref 252, .ref 253, .ref 254, .ref 255, .ref 256, .ref 257], vm := .none },
  { cls := 8, slots := #[.int (-128)], vm := .none },
  { cls := 8, slots := #[.int (-127)], vm := .none },
  { cls := 8, slots := #[.int (-126)], vm := .none },
  { cls := 8, slots := #[.int (-125)], vm := .none },
  { cls := 8, slots := #[.int (-124)], vm := .none },
  { cls := 8, slots := #[.int (-123)], vm := .none },
  { cls := 8, slots := #[.int (-122)], vm := .none },
  { cls := 8, slots := #[.int (-121)], vm := .none },
  { cls := 8, slots := #[.int (-120)], vm := .none },
  { cls := 8, slots := #[.int (-119)], vm := .none },
  { cls := 8, slots := #[.int (-118)], vm := .none },
  { cls := 8, slots := #[.int (-117)], vm := .none },
  { cls := 8, slots := #[.int (-116)], vm := .none },
  { cls := 8, slots := #[.int (-115)], vm := .none },
  { cls := 8, slots := #[.int (-114)], vm := .none },
  { cls := 8, slots := #[.int (-113)], vm := .none },
  { cls := 8, slots := #[.int (-112)], vm := .none },
  { cls := 8, slots := #[.int (-111)], vm := .none },
  { cls := 8, slots := #[.int (-110)], vm := .none },
  { cls := 8, slots := #[.int (-109)], vm := .none },
  { cls := 8, slots := #[.int (-108)], vm := .none },
  { cls := 8, slots := #[.int (-107)], vm := .none },
  { cls := 8, slots := #[.int (-106)], vm := .none },
  { cls := 8, slots := #[.int (-105)], vm := .none },
  { cls := 8, slots := #[.int (-104)], vm := .none },
  { cls := 8, slots := #[.int (-103)], vm := .none },
  { cls := 8, slots := #[.int (-102)], vm := .none },
  { cls := 8, slots := #[.int (-101)], vm := .none },
  { cls := 8, slots := #[.int (-100)], vm := .none },
  { cls := 8, slots := #[.int (-99)], vm := .none },
  { cls := 8, slots := #[.int (-98)], vm := .none },
  { cls := 8, slots := #[.int (-97)], vm := .none },
  { cls := 8, slots := #[.int (-96)], vm := .none },
  { cls := 8, slots := #[.int (-95)], vm := .none },
  { cls := 8, slots := #[.int (-94)], vm := .none },
  { cls := 8, slots := #[.int (-93)], vm := .none },
  { cls := 8, slots := #[.int (-92)], vm := .none },
  { cls := 8, slots := #[.int (-91)], vm := .none },
  { cls := 8, slots := #[.int (-90)], vm := .none },
  { cls := 8, slots := #[.int (-89)], vm := .none },
  { cls := 8, slots := #[.int (-88)], vm := .none },
  { cls := 8, slots := #[.int (-87)], vm := .none },
  { cls := 8, slots := #[.int (-86)], vm := .none },
  { cls := 8, slots := #[.int (-85)], vm := .none },
  { cls := 8, slots := #[.int (-84)], vm := .none },
  { cls := 8, slots := #[.int (-83)], vm := .none },
  { cls := 8, slots := #[.int (-82)], vm := .none },
  { cls := 8, slots := #[.int (-81)], vm := .none },
  { cls := 8, slots := #[.int (-80)], vm := .none },
  { cls := 8, slots := #[.int (-79)], vm := .none },
  { cls := 8, slots := #[.int (-78)], vm := .none },
  { cls := 8, slots := #[.int (-77)], vm := .none },
  { cls := 8, slots := #[.int (-76)], vm := .none },
  { cls := 8, slots := #[.int (-75)], vm := .none },
  { cls := 8, slots := #[.int (-74)], vm := .none },
  { cls := 8, slots := #[.int (-73)], vm := .none },
  { cls := 8, slots := #[.int (-72)], vm := .none },
  { cls := 8, slots := #[.int (-71)], vm := .none },
  { cls := 8, slots := #[.int (-70)], vm := .none },
  { cls := 8, slots := #[.int (-69)], vm := .none },
  { cls := 8, slots := #[.int (-68)], vm := .none },
  { cls := 8, slots := #[.int (-67)], vm := .none },
  { cls := 8, slots := #[.int (-66)], vm := .none },
  { cls := 8, slots := #[.int (-65)], vm := .none },
  { cls := 8, slots := #[.int (-64)], vm := .none },
  { cls := 8, slots := #[.int (-63)], vm := .none },
  { cls := 8, slots := #[.int (-62)], vm := .none },
  { cls := 8, slots := #[.int (-61)], vm := .none },
  { cls := 8, slots := #[.int (-60)], vm := .none },
  { cls := 8, slots := #[.int (-59)], vm := .none },
  { cls := 8, slots := #[.int (-58)], vm := .none },
  { cls := 8, slots := #[.int (-57)], vm := .none },
  { cls := 8, slots := #[.int (-56)], vm := .none },
  { cls := 8, slots := #[.int (-55)], vm := .none },
  { cls := 8, slots := #[.int (-54)], vm := .none },
  { cls := 8, slots := #[.int (-53)], vm := .none },
  { cls := 8, slots := #[.int (-52)], vm := .none },
  { cls := 8, slots := #[.int (-51)], vm := .none },
  { cls := 8, slots := #[.int (-50)], vm := .none },
  { cls := 8, slots := #[.int (-49)], vm := .none },
  { cls := 8, slots := #[.int (-48)], vm := .none },
  { cls := 8, slots := #[.int (-47)], vm := .none },
  { cls := 8, slots := #[.int (-46)], vm := .none },
  { cls := 8, slots := #[.int (-45)], vm := .none },
  { cls := 8, slots := #[.int (-44)], vm := .none },
  { cls := 8, slots := #[.int (-43)], vm := .none },
  { cls := 8, slots := #[.int (-42)], vm := .none },
  { cls := 8, slots := #[.int (-41)], vm := .none },
  { cls := 8, slots := #[.int (-40)], vm := .none },
  { cls := 8, slots := #[.int (-39)], vm := .none },
  { cls := 8, slots := #[.int (-38)], vm := .none },
  { cls := 8, slots := #[.int (-37)], vm := .none },
  { cls := 8, slots := #[.int (-36)], vm := .none },
  { cls := 8, slots := #[.int (-35)], vm := .none },
  { cls := 8, slots := #[.int (-34)], vm := .none },
  { cls := 8, slots := #[.int (-33)], vm := .none },
  { cls := 8, slots := #[.int (-32)], vm := .none },
  { cls := 8, slots := #[.int (-31)], vm := .none },
  { cls := 8, slots := #[.int (-30)], vm := .none },
  { cls := 8, slots := #[.int (-29)], vm := .none },
  { cls := 8, slots := #[.int (-28)], vm := .none },
  { cls := 8, slots := #[.int (-27)], vm := .none },
  { cls := 8, slots := #[.int (-26)], vm := .none },
  { cls := 8, slots := #[.int (-25)], vm := .none },
  { cls := 8, slots := #[.int (-24)], vm := .none },
  { cls := 8, slots := #[.int (-23)], vm := .none },
  { cls := 8, slots := #[.int (-22)], vm := .none },
  { cls := 8, slots := #[.int (-21)], vm := .none },
  { cls := 8, slots := #[.int (-20)], vm := .none },
  { cls := 8, slots := #[.int (-19)], vm := .none },
  { cls := 8, slots := #[.int (-18)], vm := .none },
  { cls := 8, slots := #[.int (-17)], vm := .none },
  { cls := 8, slots := #[.int (-16)], vm := .none },
  { cls := 8, slots := #[.int (-15)], vm := .none },
  { cls := 8, slots := #[.int (-14)], vm := .none },
  { cls := 8, slots := #[.int (-13)], vm := .none },
  { cls := 8, slots := #[.int (-12)], vm := .none },
  { cls := 8, slots := #[.int (-11)], vm := .none },
  { cls := 8, slots := #[.int (-10)], vm := .none },
  { cls := 8, slots := #[.int (-9)], vm := .none },
  { cls := 8, slots := #[.int (-8)], vm := .none },
  { cls := 8, slots := #[.int (-7)], vm := .none },
  { cls := 8, slots := #[.int (-6)], vm := .none },
  { cls := 8, slots := #[.int (-5)], vm := .none },
  { cls := 8, slots := #[.int (-4)], vm := .none },
  { cls := 8, slots := #[.int (-3)], vm := .none },
  { cls := 8, slots := #[.int (-2)], vm := .none },
  { cls := 8, slots := #[.int (-1)], vm := .none },
  { cls := 8, slots := #[.int (0)], vm := .none },
  { cls := 8, slots := #[.int (1)], vm := .none },
  { cls := 8, slots := #[.int (2)], vm := .none },
  { cls := 8, slots := #[.int (3)], vm := .none },
  { cls := 8, slots := #[.int (4)], vm := .none },
  { cls := 8, slots := #[.int (5)], vm := .none },
  { cls := 8, slots := #[.int (6)], vm := .none },
  { cls := 8, slots := #[.int (7)], vm := .none },
  { cls := 8, slots := #[.int (8)], vm := .none },
  { cls := 8, slots := #[.int (9)], vm := .none },
  { cls := 8, slots := #[.int (10)], vm := .none },
  { cls := 8, slots := #[.int (11)], vm := .none },
  { cls := 8, slots := #[.int (12)], vm := .none },
  { cls := 8, slots := #[.int (13)], vm := .none },
  { cls := 8, slots := #[.int (14)], vm := .none },
  { cls := 8, slots := #[.int (15)], vm := .none },
  { cls := 8, slots := #[.int (16)], vm := .none },
  { cls := 8, slots := #[.int (17)], vm := .none },
  { cls := 8, slots := #[.int (18)], vm := .none },
  { cls := 8, slots := #[.int (19)], vm := .none },
  { cls := 8, slots := #[.int (20)], vm := .none },
  { cls := 8, slots := #[.int (21)], vm := .none },
  { cls := 8, slots := #[.int (22)], vm := .none },
  { cls := 8, slots := #[.int (23)], vm := .none },
  { cls := 8, slots := #[.int (24)], vm := .none },
  { cls := 8, slots := #[.int (25)], vm := .none },
  { cls := 8, slots := #[.int (26)], vm := .none },
  { cls := 8, slots := #[.int (27)], vm := .none },
  { cls := 8, slots := #[.int (28)], vm := .none },
  { cls := 8, slots := #[.int (29)], vm := .none },
  { cls := 8, slots := #[.int (30)], vm := .none },
  { cls := 8, slots := #[.int (31)], vm := .none },
  { cls := 8, slots := #[.int (32)], vm := .none },
  { cls := 8, slots := #[.int (33)], vm := .none },
  { cls := 8, slots := #[.int (34)], vm := .none },
  { cls := 8, slots := #[.int (35)], vm := .none },
  { cls := 8, slots := #[.int (36)], vm := .none },
  { cls := 8, slots := #[.int (37)], vm := .none },
  { cls := 8, slots := #[.int (38)], vm := .none },
  { cls := 8, slots := #[.int (39)], vm := .none },
  { cls := 8, slots := #[.int (40)], vm := .none },
  { cls := 8, slots := #[.int (41)], vm := .none },
  { cls := 8, slots := #[.int (42)], vm := .none },
  { cls := 8, slots := #[.int (43)], vm := .none },
  { cls := 8, slots := #[.int (44)], vm := .none },
  { cls := 8, slots := #[.int (45)], vm := .none },
  { cls := 8, slots := #[.int (46)], vm := .none },
  { cls := 8, slots := #[.int (47)], vm := .none },
  { cls := 8, slots := #[.int (48)], vm := .none },
  { cls := 8, slots := #[.int (49)], vm := .none },
  { cls := 8, slots := #[.int (50)], vm := .none },
  { cls := 8, slots := #[.int (51)], vm := .none },
  { cls := 8, slots := #[.int (52)], vm := .none },
  { cls := 8, slots := #[.int (53)], vm := .none },
  { cls := 8, slots := #[.int (54)], vm := .none },
  { cls := 8, slots := #[.int (55)], vm := .none },
  { cls := 8, slots := #[.int (56)], vm := .none },
  { cls := 8, slots := #[.int (57)], vm := .none },
  { cls := 8, slots := #[.int (58)], vm := .none },
  { cls := 8, slots := #[.int (59)], vm := .none },
  { cls := 8, slots := #[.int (60)], vm := .none },
  { cls := 8, slots := #[.int (61)], vm := .none },
  { cls := 8, slots := #[.int (62)], vm := .none },
  { cls := 8, slots := #[.int (63)], vm := .none },
  { cls := 8, slots := #[.int (64)], vm := .none },
  { cls := 8, slots := #[.int (65)], vm := .none },
  { cls := 8, slots := #[.int (66)], vm := .none },
  { cls := 8, slots := #[.int (67)], vm := .none },
  { cls := 8, slots := #[.int (68)], vm := .none },
  { cls := 8, slots := #[.int (69)], vm := .none },
  { cls := 8, slots := #[.int (70)], vm := .none },
  { cls := 8, slots := #[.int (71)], vm := .none },
  { cls := 8, slots := #[.int (72)], vm := .none },
  { cls := 8, slots := #[.int (73)], vm := .none },
  { cls := 8, slots := #[.int (74)], vm := .none },
  { cls := 8, slots := #[.int (75)], vm := .none },
  { cls := 8, slots := #[.int (76)], vm := .none },
  { cls := 8, slots := #[.int (77)], vm := .none },
  { cls := 8, slots := #[.int (78)], vm := .none },
  { cls := 8, slots := #[.int (79)], vm := .none },
  { cls := 8, slots := #[.int (80)], vm := .none },
  { cls := 8, slots := #[.int (81)], vm := .none },
  { cls := 8, slots := #[.int (82)], vm := .none },
  { cls := 8, slots := #[.int (83)], vm := .none },
  { cls := 8, slots := #[.int (84)], vm := .none },
  { cls := 8, slots := #[.int (85)], vm := .none },
  { cls := 8, slots := #[.int (86)], vm := .none },
  { cls := 8, slots := #[.int (87)], vm := .none },
  { cls := 8, slots := #[.int (88)], vm := .none },
  { cls := 8, slots := #[.int (89)], vm := .none },
  { cls := 8, slots := #[.int (90)], vm := .none },
  { cls := 8, slots := #[.int (91)], vm := .none },
  { cls := 8, slots := #[.int (92)], vm := .none },
  { cls := 8, slots := #[.int (93)], vm := .none },
  { cls := 8, slots := #[.int (94)], vm := .none },
  { cls := 8, slots := #[.int (95)], vm := .none },
  { cls := 8, slots := #[.int (96)], vm := .none },
  { cls := 8, slots := #[.int (97)], vm := .none },
  { cls := 8, slots := #[.int (98)], vm := .none },
  { cls := 8, slots := #[.int (99)], vm := .none },
  { cls := 8, slots := #[.int (100)], vm := .none },
  { cls := 8, slots := #[.int (101)], vm := .none },
  { cls := 8, slots := #[.int (102)], vm := .none },
  { cls := 8, slots := #[.int (103)], vm := .none },
  { cls := 8, slots := #[.int (104)], vm := .none },
  { cls := 8, slots := #[.int (105)], vm := .none },
  { cls := 8, slots := #[.int (106)], vm := .none },
  { cls := 8, slots := #[.int (107)], vm := .none },
  { cls := 8, slots := #[.int (108)], vm := .none },
  { cls := 8, slots := #[.int (109)], vm := .none },
  { cls := 8, slots := #[.int (110)], vm := .none },
  { cls := 8, slots := #[.int (111)], vm := .none },
  { cls := 8, slots := #[.int (112)], vm := .none },
  { cls := 8, slots := #[.int (113)], vm := .none },
  { cls := 8, slots := #[.int (114)], vm := .none },
  { cls := 8, slots := #[.int (115)], vm := .none },
  { cls := 8, slots := #[.int (116)], vm := .none },
  { cls := 8, slots := #[.int (117)], vm := .none },
  { cls := 8, slots := #[.int (118)], vm := .none },
  { cls := 8, slots := #[.int (119)], vm := .none },
  { cls := 8, slots := #[.int (120)], vm := .none },
  { cls := 8, slots := #[.int (121)], vm := .none },
  { cls := 8, slots := #[.int (122)], vm := .none },
  { cls := 8, slots := #[.int (123)], vm := .none },
  { cls := 8, slots := #[.int (124)], vm := .none },
  { cls := 8, slots := #[.int (125)], vm := .none },
  { cls := 8, slots := #[.int (126)], vm := .none },
  { cls := 8, slots := #[.int (127)], vm := .none }]
def classes : Array Class := #[k0, k1, k2, k3, k4, k5, k6, k7, k8, k9, k10, k11, k12, k13, k14, k15]
def interned : List (Array UInt16 × Addr) := []
def slotsUsed : Nat := 517
def theMethod : MethodId := ⟨1, 1⟩
def args0 : Array Value := #[.int 5, .long 3, .int 7, .int 8, .int 9, .long 10]
def aboutOver (below : List Frame) : State where
  vm := { classes := classes, interned := interned.toArray }
  heap := heap
  slotsUsed := slotsUsed
  threads := #[{ frames := .invoking theMethod args0 :: below }]
def below0 : List Frame := [.native { method := ⟨0, 0⟩, args := #[] }]
def about1 : State := aboutOver below0
def p0 : Program := .bare "" "" ""
def e0 : Env := launch0.env 0 0 0
theorem w_frames : about1.frames = Frame.invoking theMethod args0 :: below0 := rfl
set_option maxRecDepth 65536 in
theorem w_args : argsFit about1.vm theMethod args0 = true := by decide +kernel
set_option maxRecDepth 65536 in
theorem w_heap : heapFits about1 = true := by decide +kernel
set_option maxRecDepth 65536 in
theorem w_runnable : about1.curStatus? = some .runnable := by decide +kernel
set_option maxRecDepth 65536 in
theorem w_alone : about1.alone = true := by decide +kernel
set_option maxRecDepth 65536 in
theorem w_named : about1.methodNamed? x = some theMethod := by decide +kernel
set_option maxRecDepth 65536 in
theorem w_hears : about1.hears theMethod below0 = true := by decide +kernel
set_option maxRecDepth 65536 in
theorem w_ripe : about1.ripe theMethod args0 below0 = true := by decide +kernel
theorem w_running : about1.status = .running := rfl
set_option maxRecDepth 65536 in
theorem w_room : about1.hasRoom e0.platform room_1 = true :=
  launch0.hasRoom_least _ room_1 (by decide +kernel) (by decide +kernel) (by decide +kernel) (by decide +kernel) (by decide +kernel) (by decide +kernel)
theorem allAtoms_all (ts : List Jvm.Cond) (a : Array Jvm.Value) (st : Jvm.State) : (allAtoms ts).before a st = ts.all (fun c => c.before a st) := by
  induction ts with
  | nil => rfl
  | cons c t ih =>
    show (Jvm.Cond.and c (allAtoms t)).before a st = _
    rw [Jvm.Cond.before_and, ih, List.all_cons]
def words1 : List Jvm.Cond := Jvm.Cond.code x code maxLocals ret :: tables_1
/-- a 'code' word, met by the world's own term for the bytes: nothing is compared byte by byte -/
theorem code_word {y : MethodName} {bytes : ByteArray} {mx : Nat} {rt : Option FieldType} {a : Array Value} {s : State} {m : MethodId} {meth : Method} {c : Code} (h1 : s.methodNamed? y = some m) (h2 : s.vm.method? m = some meth) (h3 : meth.code = some c) (h4 : c.code = bytes)
    (h5 : (c.maxLocals == mx && c.exceptionTable.isEmpty && decide (c.maxStack ≤ mostOperands) && decide (meth.sig.returnType = rt) && !meth.locks && decide (parseMethodDescriptor y.desc = some meth.sig)) = true) : (Jvm.Cond.code y bytes mx rt).before a s = true := by
  simp only [Bool.and_eq_true, beq_iff_eq, Bool.not_eq_true', decide_eq_true_eq] at h5
  obtain ⟨⟨⟨⟨⟨g1, g2⟩, g3⟩, g4⟩, g5⟩, g6⟩ := h5
  simp [Cond.before, Cond.holds, Cond.value, h1, h2, h3, h4, g1, g2, g3, g4, g5, g6]
def isCode : Jvm.Cond → Bool
  | .code _ _ _ _ => true
  | _ => false
theorem all_split {L : List Jvm.Cond} {P : Jvm.Cond → Bool} (h1 : L.all (fun c => isCode c || P c) = true) (h2 : ∀ c ∈ L.filter isCode, P c = true) : L.all P = true := by
  refine List.all_eq_true.mpr fun c hc => ?_
  have h := List.all_eq_true.mp h1 c hc
  rcases Bool.eq_false_or_eq_true (isCode c) with hi | hi
  · exact h2 c (List.mem_filter.mpr ⟨hc, hi⟩)
  · simpa [hi] using h
set_option maxRecDepth 65536 in
theorem w_c0 : (Jvm.Cond.code x code maxLocals ret).before args0 about1 = true := code_word (m := ⟨1, 1⟩) (meth := k1m1) (c := k1c1) (by decide +kernel) rfl rfl rfl (by decide +kernel)
set_option maxRecDepth 65536 in
theorem w_c1 : (Jvm.Cond.code ({ cls := "com/example/term_weight_evolver/termweightevolver/constraints/Probe", name := "<init>", desc := "(IJII)V" } : Jvm.MethodName) prog_5_method_1_code (6 : Nat) (Option.none : Option Jvm.ClassFile.FieldType)).before args0 about1 = true := code_word (m := ⟨2, 0⟩) (meth := k2m0) (c := k2c0) (by decide +kernel) rfl rfl rfl (by decide +kernel)
set_option maxRecDepth 65536 in
theorem w_c2 : (Jvm.Cond.code ({ cls := "java/lang/Object", name := "<init>", desc := "()V" } : Jvm.MethodName) object_method_1_code (1 : Nat) (Option.none : Option Jvm.ClassFile.FieldType)).before args0 about1 = true := code_word (m := ⟨0, 0⟩) (meth := k0m0) (c := k0c0) (by decide +kernel) rfl rfl rfl (by decide +kernel)
set_option maxRecDepth 65536 in
theorem w_c3 : (Jvm.Cond.code ({ cls := "java/lang/Integer", name := "valueOf", desc := "(I)Ljava/lang/Integer;" } : Jvm.MethodName) jdk_33_method_22_code (1 : Nat) (Option.some (Jvm.ClassFile.FieldType.object "java/lang/Integer"))).before args0 about1 = true := code_word (m := ⟨8, 0⟩) (meth := k8m0) (c := k8c0) (by decide +kernel) rfl rfl rfl (by decide +kernel)
set_option maxRecDepth 65536 in
theorem w_c4 : (Jvm.Cond.code ({ cls := "com/example/term_weight_evolver/termweightevolver/constraints/Probe", name := "equals", desc := "(Ljava/lang/Object;)Z" } : Jvm.MethodName) prog_5_method_6_code (3 : Nat) (Option.some Jvm.ClassFile.FieldType.boolean)).before args0 about1 = true := code_word (m := ⟨2, 1⟩) (meth := k2m1) (c := k2c1) (by decide +kernel) rfl rfl rfl (by decide +kernel)
set_option maxRecDepth 65536 in
theorem w_c5 : (Jvm.Cond.code ({ cls := "java/lang/Integer", name := "<init>", desc := "(I)V" } : Jvm.MethodName) jdk_33_method_23_code (2 : Nat) (Option.none : Option Jvm.ClassFile.FieldType)).before args0 about1 = true := code_word (m := ⟨8, 1⟩) (meth := k8m1) (c := k8c1) (by decide +kernel) rfl rfl rfl (by decide +kernel)
set_option maxRecDepth 65536 in
theorem w_c6 : (Jvm.Cond.code ({ cls := "java/lang/Number", name := "<init>", desc := "()V" } : Jvm.MethodName) jdk_18_method_1_code (1 : Nat) (Option.none : Option Jvm.ClassFile.FieldType)).before args0 about1 = true := code_word (m := ⟨4, 0⟩) (meth := k4m0) (c := k4c0) (by decide +kernel) rfl rfl rfl (by decide +kernel)
def codes1 : List Jvm.Cond := [Jvm.Cond.code x code maxLocals ret, Jvm.Cond.code ({ cls := "com/example/term_weight_evolver/termweightevolver/constraints/Probe", name := "<init>", desc := "(IJII)V" } : Jvm.MethodName) prog_5_method_1_code (6 : Nat) (Option.none : Option Jvm.ClassFile.FieldType), Jvm.Cond.code ({ cls := "java/lang/Object", name := "<init>", desc := "()V" } : Jvm.MethodName) object_method_1_code (1 : Nat) (Option.none : Option Jvm.ClassFile.FieldType), Jvm.Cond.code ({ cls := "java/lang/Integer", name := "valueOf", desc := "(I)Ljava/lang/Integer;" } : Jvm.MethodName) jdk_33_method_22_code (1 : Nat) (Option.some (Jvm.ClassFile.FieldType.object "java/lang/Integer")), Jvm.Cond.code ({ cls := "com/example/term_weight_evolver/termweightevolver/constraints/Probe", name := "equals", desc := "(Ljava/lang/Object;)Z" } : Jvm.MethodName) prog_5_method_6_code (3 : Nat) (Option.some Jvm.ClassFile.FieldType.boolean), Jvm.Cond.code ({ cls := "java/lang/Integer", name := "<init>", desc := "(I)V" } : Jvm.MethodName) jdk_33_method_23_code (2 : Nat) (Option.none : Option Jvm.ClassFile.FieldType), Jvm.Cond.code ({ cls := "java/lang/Number", name := "<init>", desc := "()V" } : Jvm.MethodName) jdk_18_method_1_code (1 : Nat) (Option.none : Option Jvm.ClassFile.FieldType)]
set_option maxRecDepth 65536 in
theorem codes_eq : words1.filter isCode = codes1 := rfl
theorem w_codes : ∀ c ∈ words1.filter isCode, c.before args0 about1 = true := by
  rw [codes_eq]
  intro c hc
  simp only [codes1, List.mem_cons, List.not_mem_nil, or_false] at hc
  rcases hc with rfl | rfl | rfl | rfl | rfl | rfl | rfl
  · exact w_c0
  · exact w_c1
  · exact w_c2
  · exact w_c3
  · exact w_c4
  · exact w_c5
  · exact w_c6
set_option maxRecDepth 65536 in
theorem w_t1 : (words1.take 24).all (fun c => isCode c || c.before args0 about1) = true := by decide +kernel
set_option maxRecDepth 65536 in
theorem w_t2 : ((words1.drop 24).take 24).all (fun c => isCode c || c.before args0 about1) = true := by decide +kernel
set_option maxRecDepth 65536 in
theorem w_t3 : ((words1.drop 24).drop 24).all (fun c => isCode c || c.before args0 about1) = true := by decide +kernel
theorem w_tables : (allAtoms (Jvm.Cond.code x code maxLocals ret :: tables_1)).before args0 about1 = true := by
  rw [allAtoms_all]
  show words1.all (fun c => c.before args0 about1) = true
  refine all_split ?_ w_codes
  rw [← List.take_append_drop 24 words1, List.all_append, w_t1, ← List.take_append_drop 24 (words1.drop 24), List.all_append, w_t2, w_t3]
  rfl
set_option maxRecDepth 65536 in
theorem w_rest : rest_1_c.before args0 about1 = true := by decide +kernel
set_option maxRecDepth 65536 in
theorem w_case : (Jvm.Cond.and given_1 narrow_1).before args0 about1 = true := by decide +kernel
theorem w_applies : (headSpec (Jvm.Cond.code x code maxLocals ret :: tables_1) room_1).applies x e0.platform about1 = true :=
  (Spec.applies_iff w_frames).mpr ⟨w_running, w_runnable, w_alone, w_named, w_hears, w_ripe, w_room, w_tables⟩
theorem atStart : AtStart classFile x code maxLocals ret World_1 tables_1 room_1 Calls_1 rest_1 Pre_1 launch0 p0 e0 about1 theMethod args0 below0 :=
  ⟨lists_1, trivial, launch0.admits_env _ _ _, launch0.least_env, fairChoices_fair.cas, fairChoices_fair.clock, w_frames, w_args, w_heap, w_applies, trivial, w_rest, w_case⟩
end start1
theorem witness_1 : WitnessClaimed_1 := ⟨start1.p0, start1.e0, start1.about1, start1.theMethod, start1.args0, start1.below0, start1.atStart⟩
end Jvm.Pilot.@@N@@
