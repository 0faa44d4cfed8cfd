import JvmDerived
import JvmDerived.Pilot.@@N@@Statement
import JvmDerived.Pilot.@@N@@Code
set_option linter.unusedVariables false
set_option linter.unusedSimpArgs false
namespace Jvm.Pilot.@@N@@
open Jvm Jvm.ClassFile Sem Op Lib Jvm.Free Jvm.Stand Jvm.LawKit Jvm.RoadKit Bundle Jvm.Pilot.@@N@@.Jvm.D
/-! own kit: the walk in continuation form: 'Go': from this point the body comes to its end with what Q says -/
section OwnGo
variable {p : Program} {l : Launch} {e : Env} {R : Room} {s : State} {m : MethodId} {args : Array Value} {below : List Frame} {meth : Method} {c : Code} {T : State} {locs : List Loc} {cells slots : Nat} {Z : State} {a0 : Array Value} {h : Heap} {Q : Option Value → Heap → List Loc → Prop} {C S : Nat} {End : Outcome → State → List Loc → Prop}
def Go (p : Program) (e : Env) (below : List Frame) (End : Outcome → State → List Loc → Prop) (Q : Option Value → Heap → List Loc → Prop) (T : State) (f : JFrame) : Prop :=
  ∃ s₂ o, Steps p.tables e below (T.setTop f) s₂ ∧ s₂.status = .running ∧ Ended s₂ below o ∧ ∃ v L, o = .returned v ∧ Q v s₂.heap L ∧ End o s₂ L
/-- the end of a walk that leaves the table of strings alone, and of one that may not -/
def EndN (s : State) (C S : Nat) : Outcome → State → List Loc → Prop := fun o t L => FrameEnd s o t L C S
def EndW (s : State) (C S : Nat) : Outcome → State → List Loc → Prop := fun o t L => ReturnedEndW s o t L C S
def OwnP (val : Option Value) (h0 : Heap) (n0 : Nat) (v : Option Value) (h : Heap) (L : List Loc) : Prop := v = val ∧ Fr n0 L ∧ h = h0
def OwnR (val : Option Value) (n0 : Nat) (v : Option Value) (h : Heap) (L : List Loc) : Prop := v = val ∧ Fr n0 L
abbrev OwnMet (l : Launch) (Z : State) (y : MethodName) (bytes : ByteArray) (maxL : Nat) (ret : Option FieldType) (ws : List Jvm.Cond) (rm : Room) (as' : Array Value) (h0 : Heap) (Q : Option Value → Heap → List Loc → Prop) : Prop :=
  MetFree l y (head1 (Jvm.Cond.code y bytes maxL ret :: ws) rm) (fun a U => a = as' ∧ Z.Warmed39 U.vm ∧ U.heap = h0) (fun _ _ _ _ _ => True) (fun _ U o U' => ∃ v L, o = .returned v ∧ Q v U'.heap L ∧ FrameEnd U o U' L rm.cells rm.slots)
theorem own_body {y : MethodName} {bytes : ByteArray} {maxL : Nat} {ret : Option FieldType} {ws : List Jvm.Cond} {rm : Room} {as' : Array Value} {h0 : Heap} (hpl : plainFor y = true)
    (k : ∀ (p : Program) (e : Env) (s : State) (m : MethodId) (below : List Frame) (meth : Method) (c : Code) (s₁ : State), Stand p l e rm s m as' below meth c s₁ [] 0 0 → p.tables.exec = Jvm.exec → c.code = bytes → c.maxLocals = maxL → meth.sig.returnType = ret → meth.locks = false → s.vm.findClass y.cls = some m.cls → meth.name = y.name → Z.Warmed39 s.vm → s₁.heap = h0 → s.heap = h0 → Go p e below (EndN s rm.cells rm.slots) Q s₁ (entryFrame m as' maxL)) :
    OwnMet l Z y bytes maxL ret ws rm as' h0 Q := by
  refine MetFree.of_bodySF hpl hisR ?_
  intro p e s m args below meth c s₁ Bd hml0 hP hK
  obtain ⟨rfl, hZ, hh⟩ := hP
  exact k p e s m below meth c s₁ (Stand.of_body Bd) Bd.exec Bd.bytes hml0 Bd.returns Bd.notSynchronized (findClass_of_methodNamed Bd.named) (name_of_methodNamed Bd.named Bd.method).1 hZ (by rw [← hh, Bd.state]; rfl) hh
theorem own_go {T' : State} {f f' : JFrame} (k : ∀ t, Steps p.tables e below (T'.setTop f') t → Steps p.tables e below (T.setTop f) t) (G : Go p e below End Q T' f') : Go p e below End Q T f := by
  obtain ⟨s₂, o, hs, r⟩ := G
  exact ⟨s₂, o, k _ hs, r⟩
theorem own_entry {f : JFrame} {f' : JFrame} (q : f = f') (G : Go p e below End Q T f') : Go p e below End Q T f := q ▸ G
/-- the method can be left here -/
def Leaves (e : Env) (below : List Frame) (m : MethodId) (meth : Method) (T : State) (locs : List Loc) (End : Outcome → State → List Loc → Prop) : Prop :=
  ∀ v : Option Value, (meth.sig.returnType = none → v = none) → ∃ fs, (∀ (f : JFrame) (acts : List Action), f.method = m → f.locked = none → f.entered = [] → (doReturn e (T.setTop f) acts v).1 = T.setFrames fs) ∧ (T.setFrames fs).status = .running ∧ Ended (T.setFrames fs) below (.returned v) ∧ End (.returned v) (T.setFrames fs) locs
theorem own_lvN (X : Stand p l e R s m args below meth c T locs cells slots) (hlk : meth.locks = false) (hC : cells ≤ C) (hS : slots ≤ S) : Leaves e below m meth T locs (EndN s C S) := fun v hv => by
  obtain ⟨fs, hr, hrun, hended, hW, hsame⟩ := X.leave hv hlk
  exact ⟨fs, hr, hrun, hended, ⟨_, rfl⟩, hW, hsame.mono hC hS⟩
theorem own_leave {v : Option Value} (LV : Leaves e below m meth T locs End) (hv : meth.sig.returnType = none → v = none) {f : JFrame}
    (st : ∀ fs, (∀ (f : JFrame) (acts : List Action), f.method = m → f.locked = none → f.entered = [] → (doReturn e (T.setTop f) acts v).1 = T.setFrames fs) → Steps p.tables e below (T.setTop f) (T.setFrames fs))
    (hQ : Q v T.heap locs) : Go p e below End Q T f := by
  obtain ⟨fs, hr, hrun, hended, hE⟩ := LV v hv
  exact ⟨_, _, st fs hr, hrun, hended, _, _, rfl, hQ, hE⟩
theorem own_retN (X : Stand p l e R s m args below meth c T locs cells slots) (hx : p.tables.exec = Jvm.exec) (LV : Leaves e below m meth T locs End) {pc : Nat} {Ls : Array Slot} {z : Int32} {t : FieldType} {rest : List Value} (hret : meth.sig.returnType = some t) (ht : t = .boolean ∨ t = .byte ∨ t = .char ∨ t = .short)
    (hd : decode c.code pc = .ok (.ireturn, 1)) (hQ : Q (some (.int (nar t z))) T.heap locs) : Go p e below End Q T (mkF m pc Ls (.int z :: rest)) :=
  own_leave LV (fun h => by rw [hret] at h; cases h) (fun fs hr => retN X hx hret ht hd hr) hQ
theorem own_retO (X : Stand p l e R s m args below meth c T locs cells slots) (hx : p.tables.exec = Jvm.exec) (LV : Leaves e below m meth T locs End) {pc : Nat} {Ls : Array Slot} {w : Value} {t : FieldType} {i : Instr} {rest : List Value} (hret : meth.sig.returnType = some t) (hn : narrow t w = w)
    (hi : (i = .ireturn ∧ (t = .int ∨ t = .boolean ∨ t = .byte ∨ t = .char ∨ t = .short) ∧ ∃ z, w = .int z) ∨ (i = .lreturn ∧ t = .long ∧ ∃ z, w = .long z) ∨ (i = .dreturn ∧ t = .double ∧ ∃ z, w = .double z) ∨ (i = .freturn ∧ t = .float ∧ ∃ z, w = .float z) ∨ (i = .areturn ∧ t.isReference = true ∧ w.isRef = true))
    (hd : decode c.code pc = .ok (i, 1)) (hQ : Q (some w) T.heap locs) : Go p e below End Q T (mkF m pc Ls (w :: rest)) :=
  own_leave LV (fun h => by rw [hret] at h; cases h) (fun fs hr => retOut X hx hret hn hi hd hr) hQ
theorem own_retI (X : Stand p l e R s m args below meth c T locs cells slots) (hx : p.tables.exec = Jvm.exec) (LV : Leaves e below m meth T locs End) {pc : Nat} {Ls : Array Slot} {z : Int32} {rest : List Value} (hret : meth.sig.returnType = some .int)
    (hd : decode c.code pc = .ok (.ireturn, 1)) (hQ : Q (some (.int z)) T.heap locs) : Go p e below End Q T (mkF m pc Ls (.int z :: rest)) :=
  own_retO X hx LV hret rfl (Or.inl ⟨rfl, Or.inl rfl, z, rfl⟩) hd hQ
theorem own_retL (X : Stand p l e R s m args below meth c T locs cells slots) (hx : p.tables.exec = Jvm.exec) (LV : Leaves e below m meth T locs End) {pc : Nat} {Ls : Array Slot} {z : Int64} {rest : List Value} (hret : meth.sig.returnType = some .long)
    (hd : decode c.code pc = .ok (.lreturn, 1)) (hQ : Q (some (.long z)) T.heap locs) : Go p e below End Q T (mkF m pc Ls (.long z :: rest)) :=
  own_retO X hx LV hret rfl (Or.inr (Or.inl ⟨rfl, rfl, z, rfl⟩)) hd hQ
theorem own_retA (X : Stand p l e R s m args below meth c T locs cells slots) (hx : p.tables.exec = Jvm.exec) (LV : Leaves e below m meth T locs End) {pc : Nat} {Ls : Array Slot} {w : Value} {t : FieldType} {rest : List Value} (hret : meth.sig.returnType = some t) (ht : t.isReference = true) (hw : w.isRef = true)
    (hd : decode c.code pc = .ok (.areturn, 1)) (hQ : Q (some w) T.heap locs) : Go p e below End Q T (mkF m pc Ls (w :: rest)) :=
  own_retO X hx LV hret (by cases t <;> first | (cases w <;> first | rfl | cases hw) | cases ht) (Or.inr (Or.inr (Or.inr (Or.inr ⟨rfl, ht, hw⟩)))) hd hQ
theorem own_retV (X : Stand p l e R s m args below meth c T locs cells slots) (hx : p.tables.exec = Jvm.exec) (LV : Leaves e below m meth T locs End) {pc : Nat} {Ls : Array Slot} (hret : meth.sig.returnType = none)
    (hd : decode c.code pc = .ok (.return_, 1)) (hQ : Q none T.heap locs) : Go p e below End Q T (mkF m pc Ls []) :=
  own_leave LV (fun _ => rfl) (fun fs hr => X.returnOut hx hret hd hr) hQ
/-- a branch: taken where P -/
theorem own_icmpP (P : Prop) [Decidable P] (X : Stand p l e R s m args below meth c T locs cells slots) (hx : p.tables.exec = Jvm.exec) {cd : ClassFile.Cond} {x y : Int32} {rest : List Value} {o : Int} {pc pc' : Nat} {Ls : Array Slot} (hd : decode c.code pc = .ok (.if_icmp cd o, 3)) (hP : if_icmp.holds cd x y = decide P) (ho : 0 ≤ (pc : Int) + o) (hp : ((pc : Int) + o).toNat = pc')
    (h1 : P → Go p e below End Q T (mkF m pc' Ls rest)) (h2 : ¬ P → Go p e below End Q T (mkF m (pc + 3) Ls rest)) : Go p e below End Q T (mkF m pc Ls (.int y :: .int x :: rest)) := by
  by_cases q : P
  · exact own_go (fun t k => XS.icmpYes X.here hx rfl (pc0 := pc) (pc' := pc') rfl hd rfl (by rw [hP]; exact decide_eq_true q) ho hp k) (h1 q)
  · exact own_go (fun t k => XS.icmpNo X.here hx rfl hd rfl (by rw [hP]; exact decide_eq_false q) k) (h2 q)
/-- a branch: taken where not P -/
theorem own_icmpM (P : Prop) [Decidable P] (X : Stand p l e R s m args below meth c T locs cells slots) (hx : p.tables.exec = Jvm.exec) {cd : ClassFile.Cond} {x y : Int32} {rest : List Value} {o : Int} {pc pc' : Nat} {Ls : Array Slot} (hd : decode c.code pc = .ok (.if_icmp cd o, 3)) (hP : if_icmp.holds cd x y = !decide P) (ho : 0 ≤ (pc : Int) + o) (hp : ((pc : Int) + o).toNat = pc')
    (h1 : ¬ P → Go p e below End Q T (mkF m pc' Ls rest)) (h2 : P → Go p e below End Q T (mkF m (pc + 3) Ls rest)) : Go p e below End Q T (mkF m pc Ls (.int y :: .int x :: rest)) := by
  by_cases q : P
  · exact own_go (fun t k => XS.icmpNo X.here hx rfl hd rfl (by rw [hP]; simp [q]) k) (h2 q)
  · exact own_go (fun t k => XS.icmpYes X.here hx rfl (pc0 := pc) (pc' := pc') rfl hd rfl (by rw [hP]; simp [q]) ho hp k) (h1 q)
theorem own_ifP (P : Prop) [Decidable P] (X : Stand p l e R s m args below meth c T locs cells slots) (hx : p.tables.exec = Jvm.exec) {cd : ClassFile.Cond} {x : Int32} {rest : List Value} {o : Int} {pc pc' : Nat} {Ls : Array Slot} (hd : decode c.code pc = .ok (.ifCond cd o, 3)) (hP : if_icmp.holds cd x 0 = decide P) (ho : 0 ≤ (pc : Int) + o) (hp : ((pc : Int) + o).toNat = pc')
    (h1 : P → Go p e below End Q T (mkF m pc' Ls rest)) (h2 : ¬ P → Go p e below End Q T (mkF m (pc + 3) Ls rest)) : Go p e below End Q T (mkF m pc Ls (.int x :: rest)) := by
  by_cases q : P
  · exact own_go (fun t k => XS.ifYes X.here hx rfl (pc0 := pc) (pc' := pc') rfl hd rfl (by rw [if0, hP]; exact decide_eq_true q) ho hp k) (h1 q)
  · exact own_go (fun t k => XS.ifNo X.here hx rfl hd rfl (by rw [if0, hP]; exact decide_eq_false q) k) (h2 q)
theorem own_ifM (P : Prop) [Decidable P] (X : Stand p l e R s m args below meth c T locs cells slots) (hx : p.tables.exec = Jvm.exec) {cd : ClassFile.Cond} {x : Int32} {rest : List Value} {o : Int} {pc pc' : Nat} {Ls : Array Slot} (hd : decode c.code pc = .ok (.ifCond cd o, 3)) (hP : if_icmp.holds cd x 0 = !decide P) (ho : 0 ≤ (pc : Int) + o) (hp : ((pc : Int) + o).toNat = pc')
    (h1 : ¬ P → Go p e below End Q T (mkF m pc' Ls rest)) (h2 : P → Go p e below End Q T (mkF m (pc + 3) Ls rest)) : Go p e below End Q T (mkF m pc Ls (.int x :: rest)) := by
  by_cases q : P
  · exact own_go (fun t k => XS.ifNo X.here hx rfl hd rfl (by rw [if0, hP]; simp [q]) k) (h2 q)
  · exact own_go (fun t k => XS.ifYes X.here hx rfl (pc0 := pc) (pc' := pc') rfl hd rfl (by rw [if0, hP]; simp [q]) ho hp k) (h1 q)
theorem own_eq (x y : Int32) : if_icmp.holds .eq x y = decide (x = y) := by by_cases q : x = y <;> simp [if_icmp.holds, q]
theorem own_ne (x y : Int32) : if_icmp.holds .ne x y = !decide (x = y) := by by_cases q : x = y <;> simp [if_icmp.holds, q]
theorem own_lt (x y : Int32) : if_icmp.holds .lt x y = decide (x < y) := by by_cases q : x < y <;> simp [if_icmp.holds, q]
theorem own_ge (x y : Int32) : if_icmp.holds .ge x y = !decide (x < y) := by
  by_cases q : x < y
  · rw [(tlt q).2.1]; simp [q]
  · rw [(flt q).2.1]; simp [q]
theorem own_gt (x y : Int32) : if_icmp.holds .gt x y = decide (y < x) := by
  by_cases q : y < x
  · rw [(tlt q).2.2.1]; simp [q]
  · rw [(flt q).2.2.1]; simp [q]
theorem own_le (x y : Int32) : if_icmp.holds .le x y = !decide (y < x) := by
  by_cases q : y < x
  · rw [(tlt q).2.2.2]; simp [q]
  · rw [(flt q).2.2.2]; simp [q]
theorem own_acmp (P : Prop) [Decidable P] (X : Stand p l e R s m args below meth c T locs cells slots) (hx : p.tables.exec = Jvm.exec) {cd : ACond} {x y : Value} {rest : List Value} {o : Int} {pc : Nat} {Ls : Array Slot} (h1 : x.isRef = true) (h2 : y.isRef = true) (hP : (x = y) ↔ P) (hd : decode c.code pc = .ok (.if_acmp cd o, 3)) (ho : 0 ≤ (pc : Int) + o) {pcE pcN : Nat}
    (hE : pcE = if acV cd true = true then ((pc : Int) + o).toNat else pc + 3) (hN : pcN = if acV cd false = true then ((pc : Int) + o).toNat else pc + 3)
    (k1 : P → Go p e below End Q T (mkF m pcE Ls rest)) (k2 : ¬ P → Go p e below End Q T (mkF m pcN Ls rest)) : Go p e below End Q T (mkF m pc Ls (y :: x :: rest)) := by
  by_cases q : P
  · exact own_go (fun t k => Jvm.RoadKit.acmp (g := mkF m pc Ls (y :: x :: rest)) X hx rfl h1 h2 (pc0 := pc) (pc' := pcE) (same := true) rfl hd rfl (decide_eq_true (hP.mpr q)) ho hE k) (k1 q)
  · exact own_go (fun t k => Jvm.RoadKit.acmp (g := mkF m pc Ls (y :: x :: rest)) X hx rfl h1 h2 (pc0 := pc) (pc' := pcN) (same := false) rfl hd rfl (decide_eq_false fun z => q (hP.mp z)) ho hN k) (k2 q)
theorem own_ref (a b : Addr) : (Value.ref a = Value.ref b) ↔ (a = b) := ⟨Value.ref.inj, congrArg Value.ref⟩
theorem own_callS (X : Stand p l e R s m args below meth c T locs cells slots) (hx : p.tables.exec = Jvm.exec) (hZ : Z.Warmed39 s.vm) {own : String} {index : Nat} {y : MethodName} {bytes : ByteArray} {maxL : Nat} {ret : Option FieldType} {rm : Room} {as' : Array Value} {Qc : Option Value → Heap → List Loc → Prop}
    (hown : s.vm.findClass own = some m.cls) (wl : (Cond.methodLink own index y).before a0 Z = true) (wst : (Cond.static y).before a0 Z = true) (wi : (Cond.initialized y.cls).before a0 Z = true) (wc : (Cond.code y bytes maxL ret).before a0 Z = true)
    (hy : y.cls ≠ "java/lang/invoke/MethodHandle" ∧ y.cls ≠ "java/lang/invoke/VarHandle")
    (hM : MetFree l y (head1 [Cond.code y bytes maxL ret] rm) (fun a U => a = as' ∧ Z.Warmed39 U.vm ∧ U.heap = h) (fun _ _ _ _ _ => True) (fun _ U o U' => ∃ v L, o = .returned v ∧ Qc v U'.heap L ∧ FrameEnd U o U' L rm.cells rm.slots))
    (eT : T.heap = h) {pc : Nat} {Ls : Array Slot} (hsize : Ls.size = c.maxLocals) {argsL rest stk : List Value} (hst : stk = argsL.reverse ++ rest) (ha : argsL.toArray = as') (hlen : ∀ sig, parseMethodDescriptor y.desc = some sig → argsL.length = sig.parameters.length) {W : Nat} (hW : (rest.map fun v => v.category).sum ≤ W)
    (hf : rm.frames + 1 ≤ R.frames) (hl : W + (maxL + 11) + rm.locals ≤ R.locals) (hd : decode c.code pc = .ok (.invokestatic index, 3)) (hc : cells + rm.cells ≤ R.cells) (hs : slots + rm.slots ≤ R.slots)
    (k : ∀ (v : Option Value) (T' : State) (L : List Loc), Stand p l e R s m args below meth c T' (locs ++ L) (cells + rm.cells) (slots + rm.slots) → Qc v T'.heap L → Go p e below End Q T' (mkF m (pc + 3) Ls (v.toList ++ rest))) :
    Go p e below End Q T (mkF m pc Ls stk) := by
  subst hst
  obtain ⟨v, _, ⟨T', L', k', n'⟩, -, X', ⟨Lc, hQ, l1, y1, z1⟩, st⟩ := Jvm.LawKit.callS X hx (y := y) hown (mvT hZ wl) (mvT hZ wst) (mvT hZ wi) (mvT hZ wc) hy (backOf (W := W) hM hZ wc wi hf hl) (g := mkF m pc Ls (argsL.reverse ++ rest)) rfl hsize (argsL := argsL) (rest := rest) hlen rfl (by show 2 * 0 + _ ≤ _; rw [Nat.mul_zero, Nat.zero_add]; exact hW) hd (fun _ _ => ⟨ha, eT, hc, hs⟩)
  dsimp only [Pt.U, Pt.locs, Pt.cells, Pt.slots] at X' l1 y1 z1 st hQ
  subst l1 y1 z1
  exact own_go (fun t q => st _ q) (k v T' Lc X' hQ)
theorem own_callV (X : Stand p l e R s m args below meth c T locs cells slots) (hx : p.tables.exec = Jvm.exec) (hZ : Z.Warmed39 s.vm) {own Cn : String} {index : Nat} {y : MethodName} {bytes : ByteArray} {maxL : Nat} {ret : Option FieldType} {rm : Room} {as' : Array Value} {Qc : Option Value → Heap → List Loc → Prop}
    (hown : s.vm.findClass own = some m.cls) (wl : (Cond.methodLink own index y).before a0 Z = true) (wd : (Cond.declares y).before a0 Z = true) (wsel : (Cond.selects Cn y y).before a0 Z = true) (win : (Cond.instanceMethod y).before a0 Z = true) (wc : (Cond.code y bytes maxL ret).before a0 Z = true) (wi : (Cond.initialized y.cls).before a0 Z = true)
    (hy : y.cls ≠ "java/lang/invoke/MethodHandle" ∧ y.cls ≠ "java/lang/invoke/VarHandle")
    (hM : MetFree l y (head1 [Cond.code y bytes maxL ret] rm) (fun a U => a = as' ∧ Z.Warmed39 U.vm ∧ U.heap = h) (fun _ _ _ _ _ => True) (fun _ U o U' => ∃ v L, o = .returned v ∧ Qc v U'.heap L ∧ FrameEnd U o U' L rm.cells rm.slots))
    (eT : T.heap = h) {b : Addr} (E : Exa Z h b Cn) {pc : Nat} {Ls : Array Slot} (hsize : Ls.size = c.maxLocals) {argsL rest stk : List Value} (hst : stk = argsL.reverse ++ .ref b :: rest) (ha : (.ref b :: argsL).toArray = as') (hlen : ∀ sig, parseMethodDescriptor y.desc = some sig → argsL.length = sig.parameters.length) {W : Nat} (hW : (rest.map fun v => v.category).sum ≤ W)
    (hf : rm.frames + 1 ≤ R.frames) (hl : W + (maxL + 11) + rm.locals ≤ R.locals) (hd : decode c.code pc = .ok (.invokevirtual index, 3)) (hc : cells + rm.cells ≤ R.cells) (hs : slots + rm.slots ≤ R.slots)
    (k : ∀ (v : Option Value) (T' : State) (L : List Loc), Stand p l e R s m args below meth c T' (locs ++ L) (cells + rm.cells) (slots + rm.slots) → Qc v T'.heap L → Go p e below End Q T' (mkF m (pc + 3) Ls (v.toList ++ rest))) :
    Go p e below End Q T (mkF m pc Ls stk) := by
  subst hst
  obtain ⟨cq, kq, qa, qb, qc⟩ := isOf hZ eT E
  obtain ⟨v, _, ⟨T', L', k', n'⟩, -, X', ⟨Lc, hQ, l1, y1, z1⟩, st⟩ := X.virtualBack hx (y := y) (z := y) hown (mvT hZ wl) (mvT hZ wd) (notFace_of_selects (args := #[]) (mvT hZ wsel)) (mvT hZ wsel) (mvT hZ win) hy (backOf (W := W) hM hZ wc wi hf hl) qa qc (g := mkF m pc Ls (argsL.reverse ++ .ref b :: rest)) rfl hsize (Steps.refl _) (argsL := argsL) (rest := rest) hlen rfl (by show 2 * 0 + _ ≤ _; rw [Nat.mul_zero, Nat.zero_add]; exact hW) hd (fun _ _ => ⟨ha, eT, hc, hs⟩)
  dsimp only [Pt.U, Pt.locs, Pt.cells, Pt.slots] at X' l1 y1 z1 st hQ
  subst l1 y1 z1
  exact own_go (fun t q => st.trans q) (k v T' Lc X' hQ)
theorem own_callU (X : Stand p l e R s m args below meth c T locs cells slots) (hx : p.tables.exec = Jvm.exec) (hZ : Z.Warmed39 s.vm) {own Cn owner : String} {index : Nat} {y z : MethodName} {bytes : ByteArray} {maxL : Nat} {ret : Option FieldType} {rm : Room} {as' : Array Value} {Qc : Option Value → Heap → List Loc → Prop}
    (hown : s.vm.findClass own = some m.cls) (wl : (Cond.methodLink own index y).before a0 Z = true) (wsm : (Cond.sameMethod y.cls owner y.name y.desc).before a0 Z = true) (wd : (Cond.declares ⟨owner, y.name, y.desc⟩).before a0 Z = true) (wsel : (Cond.selects Cn y z).before a0 Z = true) (win : (Cond.instanceMethod z).before a0 Z = true) (wc : (Cond.code z bytes maxL ret).before a0 Z = true) (wi : (Cond.initialized z.cls).before a0 Z = true)
    (hy : owner ≠ "java/lang/invoke/MethodHandle" ∧ owner ≠ "java/lang/invoke/VarHandle")
    (hM : MetFree l z (head1 [Cond.code z bytes maxL ret] rm) (fun a U => a = as' ∧ Z.Warmed39 U.vm ∧ U.heap = h) (fun _ _ _ _ _ => True) (fun _ U o U' => ∃ v L, o = .returned v ∧ Qc v U'.heap L ∧ FrameEnd U o U' L rm.cells rm.slots))
    (eT : T.heap = h) {b : Addr} (E : Exa Z h b Cn) {pc : Nat} {Ls : Array Slot} (hsize : Ls.size = c.maxLocals) {argsL rest stk : List Value} (hst : stk = argsL.reverse ++ .ref b :: rest) (ha : (.ref b :: argsL).toArray = as') (hlen : ∀ sig, parseMethodDescriptor y.desc = some sig → argsL.length = sig.parameters.length) {W : Nat} (hW : (rest.map fun v => v.category).sum ≤ W)
    (hf : rm.frames + 1 ≤ R.frames) (hl : W + (maxL + 11) + rm.locals ≤ R.locals) (hd : decode c.code pc = .ok (.invokevirtual index, 3)) (hc : cells + rm.cells ≤ R.cells) (hs : slots + rm.slots ≤ R.slots)
    (k : ∀ (v : Option Value) (T' : State) (L : List Loc), Stand p l e R s m args below meth c T' (locs ++ L) (cells + rm.cells) (slots + rm.slots) → Qc v T'.heap L → Go p e below End Q T' (mkF m (pc + 3) Ls (v.toList ++ rest))) :
    Go p e below End Q T (mkF m pc Ls stk) := by
  subst hst
  obtain ⟨cq, kq, qa, qb, qc⟩ := isOf hZ eT E
  obtain ⟨v, _, ⟨T', L', k', n'⟩, -, X', ⟨Lc, hQ, l1, y1, z1⟩, st⟩ := X.virtualBackUp hx (x := y) (y := z) hown (mvT hZ wl) (mvT hZ wsm) (mvT hZ wd) hy (mvT hZ wsel) (mvT hZ win) (backOf (W := W) hM hZ wc wi hf hl) qa qc (g := mkF m pc Ls (argsL.reverse ++ .ref b :: rest)) rfl hsize (Steps.refl _) (argsL := argsL) (rest := rest) hlen rfl (by show 2 * 0 + _ ≤ _; rw [Nat.mul_zero, Nat.zero_add]; exact hW) hd (fun _ _ => ⟨ha, eT, hc, hs⟩)
  dsimp only [Pt.U, Pt.locs, Pt.cells, Pt.slots] at X' l1 y1 z1 st hQ
  subst l1 y1 z1
  exact own_go (fun t q => st.trans q) (k v T' Lc X' hQ)
theorem own_callI (X : Stand p l e R s m args below meth c T locs cells slots) (hx : p.tables.exec = Jvm.exec) (hZ : Z.Warmed39 s.vm) {own : String} {index : Nat} {y : MethodName} {bytes : ByteArray} {maxL : Nat} {rm : Room} {as' : Array Value} {Qc : Option Value → Heap → List Loc → Prop} (hy1 : y.name = "<init>")
    (hown : s.vm.findClass own = some m.cls) (wl : (Cond.methodLink own index y).before a0 Z = true) (win : (Cond.instanceMethod y).before a0 Z = true) (wc : (Cond.code y bytes maxL none).before a0 Z = true) (wi : (Cond.initialized y.cls).before a0 Z = true)
    (hy : y.cls ≠ "java/lang/invoke/MethodHandle" ∧ y.cls ≠ "java/lang/invoke/VarHandle")
    (hM : MetFree l y (head1 [Cond.code y bytes maxL none] rm) (fun a U => a = as' ∧ Z.Warmed39 U.vm ∧ U.heap = h) (fun _ _ _ _ _ => True) (fun _ U o U' => ∃ v L, o = .returned v ∧ Qc v U'.heap L ∧ FrameEnd U o U' L rm.cells rm.slots))
    (eT : T.heap = h) {b : Addr} {pc : Nat} {Ls : Array Slot} (hsize : Ls.size = c.maxLocals) {argsL rest stk : List Value} (hst : stk = argsL.reverse ++ .ref b :: rest) (ha : (.ref b :: argsL).toArray = as') (hlen : ∀ sig, parseMethodDescriptor y.desc = some sig → argsL.length = sig.parameters.length) {W : Nat} (hW : (rest.map fun v => v.category).sum ≤ W)
    (hf : rm.frames + 1 ≤ R.frames) (hl : W + (maxL + 11) + rm.locals ≤ R.locals) (hd : decode c.code pc = .ok (.invokespecial index, 3)) (hc : cells + rm.cells ≤ R.cells) (hs : slots + rm.slots ≤ R.slots)
    (k : ∀ (v : Option Value) (T' : State) (L : List Loc), Stand p l e R s m args below meth c T' (locs ++ L) (cells + rm.cells) (slots + rm.slots) → Qc v T'.heap L → Go p e below End Q T' (mkF m (pc + 3) Ls (v.toList ++ rest))) :
    Go p e below End Q T (mkF m pc Ls stk) := by
  subst hst
  obtain ⟨v, _, ⟨T', L', k', n'⟩, -, X', ⟨Lc, hQ, l1, y1, z1⟩, st⟩ := X.specialBack hx (y := y) hy1 hown (mvT hZ wl) (mvT hZ win) (mvT hZ wc) hy (backOf (W := W) hM hZ wc wi hf hl) (g := mkF m pc Ls (argsL.reverse ++ .ref b :: rest)) rfl hsize (Steps.refl _) (a := b) (argsL := argsL) (rest := rest) hlen rfl (by show 2 * 0 + _ ≤ _; rw [Nat.mul_zero, Nat.zero_add]; exact hW) hd (fun _ _ => ⟨ha, eT, hc, hs⟩)
  dsimp only [Pt.U, Pt.locs, Pt.cells, Pt.slots] at X' l1 y1 z1 st hQ
  subst l1 y1 z1
  exact own_go (fun t q => st.trans q) (k v T' Lc X' hQ)
theorem own_eqI {ar : Array Value} {t : Term} {k : Int32} (hx : (Cond.eq t (.int k)).value ar Z none Z [] = some true) : t.eval ar Z none [] Z = some (.int k) := by
  obtain ⟨x, y, e1, e2, k1, -⟩ := cmp_v (Or.inl hx)
  have e3 : y = .int k := Option.some.inj (e2.symm.trans (Term.int_eval k))
  subst e3
  cases x with
  | int z =>
    have := gotT (Cond.eq_ints e1 e2) hx
    subst this
    exact e1
  | _ => simp [Kin, Value.isRef] at k1
theorem own_fld {ar : Array Value} {t : Term} {w : Addr} {O n d : String} {k : Int32} (ev : t.eval ar Z none [] Z = some (.ref w)) (hx : (Cond.eq (.field t O n d) (.int k)).value ar Z none Z [] = some true) : Fld Z Z.heap w O n d (.int k) :=
  Fld.start ((fld_at (C := O) (n := n) (dd := d) ev).symm.trans (own_eqI hx))
theorem own_len {ar : Array Value} {t : Term} {a : Addr} {cl : Cell} {k : Int32} {n : Nat} (ev : t.eval ar Z none [] Z = some (.ref a)) (hat : Z.arrayAt? a = some cl) (hL : (Cond.eq (.length t) (.int k)).value ar Z none Z [] = some true) (hk : k.toInt = n) : cl.slots.size = n ∧ cl.slots.size < 2 ^ 31 := by
  by_cases hs : cl.slots.size < 2 ^ 31
  · have e1 := len_f (t := t) ev hat hs
    have e2 := own_eqI hL
    have e3 : cl.slots.size.toInt32 = k := Value.int.inj (Option.some.inj (e1.symm.trans e2))
    have e4 := len_toInt hs
    rw [e3, hk] at e4
    exact ⟨by omega, hs⟩
  · have e2 := own_eqI hL
    simp [Term.eval, ev, hat, hs] at e2
theorem own_ne_fld {a b : Addr} {Cn n d : String} {v w : Value} (F : Fld Z h a Cn n d v) (G : Fld Z h b Cn n d w) (hn : v ≠ w) : ¬ a = b := by
  rintro rfl
  obtain ⟨c1, cf1, k1, i1, f1, h1, h2, -, -, -, -, h7⟩ := F
  obtain ⟨c2, cf2, k2, i2, f2, g1, g2, -, -, -, -, g7⟩ := G
  cases h1.symm.trans g1
  cases h2.symm.trans g2
  cases h7.symm.trans g7
  exact hn rfl
theorem own_sta_keep {h h' : Heap} {ws : List Addr} {Cn n d : String} {v : Value} (F : Sta Z h Cn n d v) (K : Keep h h' ws) (hws : ∀ a ∈ ws, ∃ C', Exa Z h a C') : Sta Z h' Cn n d v := by
  obtain ⟨cf, i, k, f, st, cell, h1, h2, h3, h4, h5, h6, h7⟩ := F
  refine ⟨cf, i, k, f, st, cell, h1, h2, h3, h4, K.2.1 st cell h5 (fun q => ?_), h6, h7⟩
  obtain ⟨C', cell', k', e1, -, -, e4, -⟩ := hws st q
  cases h5.symm.trans e1
  rw [h6] at e4; cases e4
/-- the class named c has no superclass named K (itself neither) -/
def OwnNsub (Z : State) (c K : String) : Prop := ∀ (ci ki : ClassId), Z.vm.findClass c = some ci → Z.vm.findClass K = some ki → ∀ fuel, Z.vm.isSubclassAux fuel ci ki = false
theorem own_id_ne {c K : String} {ci ki : ClassId} (h1 : Z.vm.findClass c = some ci) (h2 : Z.vm.findClass K = some ki) (hn : c ≠ K) : (ci == ki) = false := by
  rw [beq_eq_false_iff_ne]
  rintro rfl
  obtain ⟨k1, a1, b1⟩ := Vm.findClass_spec h1
  obtain ⟨k2, a2, b2⟩ := Vm.findClass_spec h2
  cases a1.symm.trans a2
  exact hn (b1.symm.trans b2)
theorem own_nsub_root {c K : String} (w : (Cond.noSuperclass c).before a0 Z = true) (hn : c ≠ K) : OwnNsub Z c K := by
  intro ci ki h1 h2 fuel
  cases fuel with
  | zero => rfl
  | succ n =>
    obtain ⟨k1, a1, b1⟩ := Vm.findClass_spec h1
    have hs := Cond.noSuperclass_root w ci k1 h1 a1
    simp [Vm.isSubclassAux, own_id_ne h1 h2 hn, a1, hs]
theorem own_nsub_up {c d K : String} (w : (Cond.superclass c d).before a0 Z = true) (hn : c ≠ K) (N : OwnNsub Z d K) : OwnNsub Z c K := by
  intro ci ki h1 h2 fuel
  cases fuel with
  | zero => rfl
  | succ n =>
    obtain ⟨pi, k, kp, g1, g2, g3, g4, -⟩ := Cond.superclass_spec h1 w
    simp [Vm.isSubclassAux, own_id_ne h1 h2 hn, g2, g4, N pi ki g1 h2 n]
theorem own_nins {a : Addr} {c d K : String} {kk : Nat} (E : Exa Z h a c) (wi : (Cond.instantiable K kk).before a0 Z = true) (wsup : (Cond.superclass c d).before a0 Z = true) (hn : c ≠ K) (N : OwnNsub Z c K) : Ins Z h a K false := by
  obtain ⟨cell, k, h1, h2, h3, h4, -⟩ := E
  obtain ⟨ki, kt, i1, i2, i3, i4, -⟩ := Cond.instantiable_spec wi
  obtain ⟨pi, k', kp, g1, g2, g3, g4, g5, -⟩ := Cond.superclass_spec h2 wsup
  cases h3.symm.trans g2
  refine ⟨cell, ki, h1, i1, ?_⟩
  have hif : kt.isInterface = false := by simp only [Bool.or_eq_false_iff] at i4; exact i4.1
  simp [h4, Vm.assignable, Vm.assignableAux, own_id_ne h2 i1 hn, h3, i2, g5, i3, hif, Vm.isSubclass, N cell.cls ki h2 i1]
end OwnGo
theorem own_int {i j : Int32} (h : i.toInt = j.toInt) : i = j := Int32.toInt_inj.mp h
theorem own_and3 (x : Int32) : (x &&& (3 : Int32)) = 0 ∨ (x &&& (3 : Int32)) = 1 ∨ (x &&& (3 : Int32)) = 2 ∨ (x &&& (3 : Int32)) = 3 := by
  have h := c_and x (3 : Int32) (by decide)
  have h3 : (3 : Int32).toInt = 3 := by decide
  rw [h3] at h
  generalize (x &&& (3 : Int32)) = i at h
  have q : i.toInt = 0 ∨ i.toInt = 1 ∨ i.toInt = 2 ∨ i.toInt = 3 := by omega
  rcases q with q | q | q | q
  · exact Or.inl (own_int q)
  · exact Or.inr (Or.inl (own_int q))
  · exact Or.inr (Or.inr (Or.inl (own_int q)))
  · exact Or.inr (Or.inr (Or.inr (own_int q)))
theorem own_and1 (x : Int32) : (x &&& (1 : Int32)) = 0 ∨ (x &&& (1 : Int32)) = 1 := by
  have h := c_and x (1 : Int32) (by decide)
  have h3 : (1 : Int32).toInt = 1 := by decide
  rw [h3] at h
  generalize (x &&& (1 : Int32)) = i at h
  have q : i.toInt = 0 ∨ i.toInt = 1 := by omega
  rcases q with q | q
  · exact Or.inl (own_int q)
  · exact Or.inr (own_int q)
theorem own_rem6 (x : Int32) : ((x &&& (2147483647 : Int32)) % (6 : Int32)) = 0 ∨ ((x &&& (2147483647 : Int32)) % (6 : Int32)) = 1 ∨ ((x &&& (2147483647 : Int32)) % (6 : Int32)) = 2 ∨ ((x &&& (2147483647 : Int32)) % (6 : Int32)) = 3 ∨ ((x &&& (2147483647 : Int32)) % (6 : Int32)) = 4 ∨ ((x &&& (2147483647 : Int32)) % (6 : Int32)) = 5 := by
  have h := (c_and x (2147483647 : Int32) (by decide)).1
  generalize (x &&& (2147483647 : Int32)) = y at h
  have h2 := (c_irem y (6 : Int32) 6 (by decide)).1 h
  generalize (y % (6 : Int32)) = i at h2
  have q : i.toInt = 0 ∨ i.toInt = 1 ∨ i.toInt = 2 ∨ i.toInt = 3 ∨ i.toInt = 4 ∨ i.toInt = 5 := by omega
  rcases q with q | q | q | q | q | q
  · exact Or.inl (own_int q)
  · exact Or.inr (Or.inl (own_int q))
  · exact Or.inr (Or.inr (Or.inl (own_int q)))
  · exact Or.inr (Or.inr (Or.inr (Or.inl (own_int q))))
  · exact Or.inr (Or.inr (Or.inr (Or.inr (Or.inl (own_int q)))))
  · exact Or.inr (Or.inr (Or.inr (Or.inr (Or.inr (own_int q)))))
theorem own_rem5 (x : Int32) : ((x &&& (2147483647 : Int32)) % (5 : Int32)) = 0 ∨ ((x &&& (2147483647 : Int32)) % (5 : Int32)) = 1 ∨ ((x &&& (2147483647 : Int32)) % (5 : Int32)) = 2 ∨ ((x &&& (2147483647 : Int32)) % (5 : Int32)) = 3 ∨ ((x &&& (2147483647 : Int32)) % (5 : Int32)) = 4 := by
  have h := (c_and x (2147483647 : Int32) (by decide)).1
  generalize (x &&& (2147483647 : Int32)) = y at h
  have h2 := (c_irem y (5 : Int32) 5 (by decide)).1 h
  generalize (y % (5 : Int32)) = i at h2
  have q : i.toInt = 0 ∨ i.toInt = 1 ∨ i.toInt = 2 ∨ i.toInt = 3 ∨ i.toInt = 4 := by omega
  rcases q with q | q | q | q | q
  · exact Or.inl (own_int q)
  · exact Or.inr (Or.inl (own_int q))
  · exact Or.inr (Or.inr (Or.inl (own_int q)))
  · exact Or.inr (Or.inr (Or.inr (Or.inl (own_int q))))
  · exact Or.inr (Or.inr (Or.inr (Or.inr (own_int q))))
theorem own_and2 (x : Int32) : (x &&& (2 : Int32)) = 0 ∨ (x &&& (2 : Int32)) = 2 := by
  have h : (x &&& (2 : Int32)) = (x &&& (3 : Int32)) &&& (2 : Int32) := by rw [Int32.and_assoc]; rfl
  rw [h]
  rcases own_and3 x with q | q | q | q <;> rw [q] <;> decide

def own_pick (p1 : Int32) (w0 w1 w2 w3 w4 : Addr) : Addr := if ((p1 &&& (2147483647 : Int32)) % (5 : Int32)) = 0 then w0 else if ((p1 &&& (2147483647 : Int32)) % (5 : Int32)) = 1 then w1 else if ((p1 &&& (2147483647 : Int32)) % (5 : Int32)) = 2 then w2 else if ((p1 &&& (2147483647 : Int32)) % (5 : Int32)) = 3 then w3 else w4
theorem own_pick_of (P : Addr → Prop) (p1 : Int32) (w0 w1 w2 w3 w4 : Addr) (h0 : P w0) (h1 : P w1) (h2 : P w2) (h3 : P w3) (h4 : P w4) : P (own_pick p1 w0 w1 w2 w3 w4) := by
  unfold own_pick
  split
  · exact h0
  split
  · exact h1
  split
  · exact h2
  split
  · exact h3
  exact h4
theorem d_method_2_0 : Jvm.ClassFile.decode method_2_code 0 = .ok (.iload_n 0, 1) := by decide +kernel
theorem d_method_2_1 : Jvm.ClassFile.decode method_2_code 1 = .ok (.ldc 7, 2) := by decide +kernel
theorem d_method_2_3 : Jvm.ClassFile.decode method_2_code 3 = .ok (.iand, 1) := by decide +kernel
theorem d_method_2_4 : Jvm.ClassFile.decode method_2_code 4 = .ok (.iconst 5, 1) := by decide +kernel
theorem d_method_2_5 : Jvm.ClassFile.decode method_2_code 5 = .ok (.irem, 1) := by decide +kernel
theorem d_method_2_6 : Jvm.ClassFile.decode method_2_code 6 = .ok (.istore_n 1, 1) := by decide +kernel
theorem d_method_2_7 : Jvm.ClassFile.decode method_2_code 7 = .ok (.iload_n 1, 1) := by decide +kernel
theorem d_method_2_8 : Jvm.ClassFile.decode method_2_code 8 = .ok (.ifCond .ne 7, 3) := by decide +kernel
theorem d_method_2_11 : Jvm.ClassFile.decode method_2_code 11 = .ok (.getstatic 8, 3) := by decide +kernel
theorem d_method_2_14 : Jvm.ClassFile.decode method_2_code 14 = .ok (.areturn, 1) := by decide +kernel
theorem d_method_2_15 : Jvm.ClassFile.decode method_2_code 15 = .ok (.iload_n 1, 1) := by decide +kernel
theorem d_method_2_16 : Jvm.ClassFile.decode method_2_code 16 = .ok (.iconst 1, 1) := by decide +kernel
theorem d_method_2_17 : Jvm.ClassFile.decode method_2_code 17 = .ok (.if_icmp .ne 7, 3) := by decide +kernel
theorem d_method_2_20 : Jvm.ClassFile.decode method_2_code 20 = .ok (.getstatic 14, 3) := by decide +kernel
theorem d_method_2_23 : Jvm.ClassFile.decode method_2_code 23 = .ok (.areturn, 1) := by decide +kernel
theorem d_method_2_24 : Jvm.ClassFile.decode method_2_code 24 = .ok (.iload_n 1, 1) := by decide +kernel
theorem d_method_2_25 : Jvm.ClassFile.decode method_2_code 25 = .ok (.iconst 2, 1) := by decide +kernel
theorem d_method_2_26 : Jvm.ClassFile.decode method_2_code 26 = .ok (.if_icmp .ne 7, 3) := by decide +kernel
theorem d_method_2_29 : Jvm.ClassFile.decode method_2_code 29 = .ok (.getstatic 17, 3) := by decide +kernel
theorem d_method_2_32 : Jvm.ClassFile.decode method_2_code 32 = .ok (.areturn, 1) := by decide +kernel
theorem d_method_2_33 : Jvm.ClassFile.decode method_2_code 33 = .ok (.iload_n 1, 1) := by decide +kernel
theorem d_method_2_34 : Jvm.ClassFile.decode method_2_code 34 = .ok (.iconst 3, 1) := by decide +kernel
theorem d_method_2_35 : Jvm.ClassFile.decode method_2_code 35 = .ok (.if_icmp .ne 7, 3) := by decide +kernel
theorem d_method_2_38 : Jvm.ClassFile.decode method_2_code 38 = .ok (.getstatic 20, 3) := by decide +kernel
theorem d_method_2_41 : Jvm.ClassFile.decode method_2_code 41 = .ok (.areturn, 1) := by decide +kernel
theorem d_method_2_42 : Jvm.ClassFile.decode method_2_code 42 = .ok (.getstatic 23, 3) := by decide +kernel
theorem d_method_2_45 : Jvm.ClassFile.decode method_2_code 45 = .ok (.areturn, 1) := by decide +kernel
theorem own_pn0 : plainName "com/example/term_weight_evolver/termweightevolver/constraints/VerdictHoldsPinLaw" = true := by first | (simp [plainName, overriddenIn]; done) | decide +kernel
theorem own_ef_rm1 (m : MethodId) (x0 : Int32) : entryFrame m #[(.int x0)] 2 = mkF m 0 #[.val (.int x0), .unset] [] := by first | (simp [entryFrame, mkF, argsToLocals, Value.category]; done) | rfl
set_option maxRecDepth 65536 in
set_option maxHeartbeats 40000000 in
theorem rm1 (l : Launch) (Z : State) (a0 : Array Value) (hw : ∀ d ∈ tables_1, d.before a0 Z = true) (ws : List Jvm.Cond) (p1 : Int32) (w_C3 : Addr) (w_C2 : Addr) (w_C4 : Addr) (w_C1 : Addr) (w_C1_1 : Addr) (r : Addr) (h0 : Heap) (n0 : Nat) (hn0 : n0 ≤ h0.size) (S_C3 : Sta Z h0 "com/example/term_weight_evolver/termweightevolver/constraints/Constraint" "C3" "Lcom/example/term_weight_evolver/termweightevolver/constraints/Constraint;" (.ref w_C3)) (S_C2 : Sta Z h0 "com/example/term_weight_evolver/termweightevolver/constraints/Constraint" "C2" "Lcom/example/term_weight_evolver/termweightevolver/constraints/Constraint;" (.ref w_C2)) (S_C4 : Sta Z h0 "com/example/term_weight_evolver/termweightevolver/constraints/Constraint" "C4" "Lcom/example/term_weight_evolver/termweightevolver/constraints/Constraint;" (.ref w_C4)) (S_C1 : Sta Z h0 "com/example/term_weight_evolver/termweightevolver/constraints/Constraint" "C1" "Lcom/example/term_weight_evolver/termweightevolver/constraints/Constraint;" (.ref w_C1)) (S_C1_1 : Sta Z h0 "com/example/term_weight_evolver/termweightevolver/constraints/Constraint" "C1_1" "Lcom/example/term_weight_evolver/termweightevolver/constraints/Constraint;" (.ref w_C1_1)) (hr : own_pick p1 w_C1 w_C1_1 w_C2 w_C3 w_C4 = r) :
    OwnMet l Z (⟨"com/example/term_weight_evolver/termweightevolver/constraints/VerdictHoldsPinLaw", "pick", "(I)Lcom/example/term_weight_evolver/termweightevolver/constraints/Constraint;"⟩ : MethodName) method_2_code 2 (some (.object "com/example/term_weight_evolver/termweightevolver/constraints/Constraint")) ws ({ frames := 0, cells := 0, slots := 0, locals := 0 } : Room) #[(.int p1)] h0 (OwnP (some (.ref r)) h0 n0) := by
  refine own_body (plainFor_of_name own_pn0) ?_
  intro p e s m below meth c s₁ X0 hx hby hml hret hlk hown0 hnm hZ e0 hs0
  have hown : s.vm.findClass "com/example/term_weight_evolver/termweightevolver/constraints/VerdictHoldsPinLaw" = some m.cls := hown0
  have N0 := Fr.nil n0
  refine own_entry (own_ef_rm1 m p1) ?_
  show Go _ _ _ _ _ s₁ (mkF m 0 #[.val (.int p1), .unset] [])
  refine own_go (fun t k => XS.iloadN X0.here hx rfl (hb hby d_method_2_0) rfl k) ?_
  show Go _ _ _ _ _ s₁ (mkF m 1 #[.val (.int p1), .unset] [(.int p1)])
  refine own_go (fun t k => X0.ldcInt hx hown (mvT hZ (hw _ (List.mem_of_getElem? (i := 4) rfl))) (g := (mkF m 1 #[.val (.int p1), .unset] [(.int p1)])) rfl (hb hby d_method_2_1) _ k) ?_
  show Go _ _ _ _ _ s₁ (mkF m 3 #[.val (.int p1), .unset] [(.int (2147483647 : Int32)), (.int p1)])
  refine own_go (fun t k => XS.iand X0.here hx rfl (hb hby d_method_2_3) rfl k) ?_
  show Go _ _ _ _ _ s₁ (mkF m 4 #[.val (.int p1), .unset] [(.int (p1 &&& (2147483647 : Int32)))])
  refine own_go (fun t k => XS.iconst X0.here hx rfl (hb hby d_method_2_4) k) ?_
  show Go _ _ _ _ _ s₁ (mkF m 5 #[.val (.int p1), .unset] [(.int (5 : Int32)), (.int (p1 &&& (2147483647 : Int32)))])
  refine own_go (fun t k => iremM X0 hx rfl (hb hby d_method_2_5) rfl (by decide) k) ?_
  show Go _ _ _ _ _ s₁ (mkF m 6 #[.val (.int p1), .unset] [(.int ((p1 &&& (2147483647 : Int32)) % (5 : Int32)))])
  refine own_go (fun t k => XS.istoreN X0.here hx rfl (hb hby d_method_2_6) rfl (l' := #[.val (.int p1), .val (.int ((p1 &&& (2147483647 : Int32)) % (5 : Int32)))]) rfl k) ?_
  have hi := own_rem5 p1
  have hj : own_pick p1 w_C1 w_C1_1 w_C2 w_C3 w_C4 = r := hr
  unfold own_pick at hj
  generalize ((p1 &&& (2147483647 : Int32)) % (5 : Int32)) = i at hi hj ⊢
  rcases hi with rfl | rfl | rfl | rfl | rfl
  · skip
    show Go _ _ _ _ _ s₁ (mkF m 7 #[.val (.int p1), .val (.int (0 : Int32))] [])
    refine own_go (fun t k => XS.iloadN X0.here hx rfl (hb hby d_method_2_7) rfl k) ?_
    show Go _ _ _ _ _ s₁ (mkF m 8 #[.val (.int p1), .val (.int (0 : Int32))] [(.int (0 : Int32))])
    refine own_go (fun t k => XS.ifNo X0.here hx rfl (hb hby d_method_2_8) rfl (by decide) k) ?_
    show Go _ _ _ _ _ s₁ (mkF m 11 #[.val (.int p1), .val (.int (0 : Int32))] [])
    obtain ⟨T1, X1, e1, st1⟩ := getS2 X0 hx hZ hown (host := "") (Or.inl (hw _ (List.mem_of_getElem? (i := 55) rfl))) Via.refl e0 S_C1 (g := (mkF m 11 #[.val (.int p1), .val (.int (0 : Int32))] [])) rfl (hb hby d_method_2_11)
    refine own_go (fun t k => st1 t k) ?_
    show Go _ _ _ _ _ T1 (mkF m 14 #[.val (.int p1), .val (.int (0 : Int32))] [(.ref w_C1)])
    refine own_retA X1 hx (own_lvN X1 hlk (by decide) (by decide)) hret rfl rfl (hb hby d_method_2_14) ?_
    exact ⟨(by rw [← hj]; try rfl), N0, e1⟩
  · skip
    show Go _ _ _ _ _ s₁ (mkF m 7 #[.val (.int p1), .val (.int (1 : Int32))] [])
    refine own_go (fun t k => XS.iloadN X0.here hx rfl (hb hby d_method_2_7) rfl k) ?_
    show Go _ _ _ _ _ s₁ (mkF m 8 #[.val (.int p1), .val (.int (1 : Int32))] [(.int (1 : Int32))])
    refine own_go (fun t k => XS.ifYes X0.here hx rfl (pc0 := 8) (pc' := 15) rfl (hb hby d_method_2_8) rfl (by decide) (by decide) (by decide) k) ?_
    show Go _ _ _ _ _ s₁ (mkF m 15 #[.val (.int p1), .val (.int (1 : Int32))] [])
    refine own_go (fun t k => XS.iloadN X0.here hx rfl (hb hby d_method_2_15) rfl k) ?_
    show Go _ _ _ _ _ s₁ (mkF m 16 #[.val (.int p1), .val (.int (1 : Int32))] [(.int (1 : Int32))])
    refine own_go (fun t k => XS.iconst X0.here hx rfl (hb hby d_method_2_16) k) ?_
    show Go _ _ _ _ _ s₁ (mkF m 17 #[.val (.int p1), .val (.int (1 : Int32))] [(.int (1 : Int32)), (.int (1 : Int32))])
    refine own_go (fun t k => XS.icmpNo X0.here hx rfl (hb hby d_method_2_17) rfl (by decide) k) ?_
    show Go _ _ _ _ _ s₁ (mkF m 20 #[.val (.int p1), .val (.int (1 : Int32))] [])
    obtain ⟨T2, X2, e2, st2⟩ := getS2 X0 hx hZ hown (host := "") (Or.inl (hw _ (List.mem_of_getElem? (i := 57) rfl))) Via.refl e0 S_C1_1 (g := (mkF m 20 #[.val (.int p1), .val (.int (1 : Int32))] [])) rfl (hb hby d_method_2_20)
    refine own_go (fun t k => st2 t k) ?_
    show Go _ _ _ _ _ T2 (mkF m 23 #[.val (.int p1), .val (.int (1 : Int32))] [(.ref w_C1_1)])
    refine own_retA X2 hx (own_lvN X2 hlk (by decide) (by decide)) hret rfl rfl (hb hby d_method_2_23) ?_
    exact ⟨(by rw [← hj]; try rfl), N0, e2⟩
  · skip
    show Go _ _ _ _ _ s₁ (mkF m 7 #[.val (.int p1), .val (.int (2 : Int32))] [])
    refine own_go (fun t k => XS.iloadN X0.here hx rfl (hb hby d_method_2_7) rfl k) ?_
    show Go _ _ _ _ _ s₁ (mkF m 8 #[.val (.int p1), .val (.int (2 : Int32))] [(.int (2 : Int32))])
    refine own_go (fun t k => XS.ifYes X0.here hx rfl (pc0 := 8) (pc' := 15) rfl (hb hby d_method_2_8) rfl (by decide) (by decide) (by decide) k) ?_
    show Go _ _ _ _ _ s₁ (mkF m 15 #[.val (.int p1), .val (.int (2 : Int32))] [])
    refine own_go (fun t k => XS.iloadN X0.here hx rfl (hb hby d_method_2_15) rfl k) ?_
    show Go _ _ _ _ _ s₁ (mkF m 16 #[.val (.int p1), .val (.int (2 : Int32))] [(.int (2 : Int32))])
    refine own_go (fun t k => XS.iconst X0.here hx rfl (hb hby d_method_2_16) k) ?_
    show Go _ _ _ _ _ s₁ (mkF m 17 #[.val (.int p1), .val (.int (2 : Int32))] [(.int (1 : Int32)), (.int (2 : Int32))])
    refine own_go (fun t k => XS.icmpYes X0.here hx rfl (pc0 := 17) (pc' := 24) rfl (hb hby d_method_2_17) rfl (by decide) (by decide) (by decide) k) ?_
    show Go _ _ _ _ _ s₁ (mkF m 24 #[.val (.int p1), .val (.int (2 : Int32))] [])
    refine own_go (fun t k => XS.iloadN X0.here hx rfl (hb hby d_method_2_24) rfl k) ?_
    show Go _ _ _ _ _ s₁ (mkF m 25 #[.val (.int p1), .val (.int (2 : Int32))] [(.int (2 : Int32))])
    refine own_go (fun t k => XS.iconst X0.here hx rfl (hb hby d_method_2_25) k) ?_
    show Go _ _ _ _ _ s₁ (mkF m 26 #[.val (.int p1), .val (.int (2 : Int32))] [(.int (2 : Int32)), (.int (2 : Int32))])
    refine own_go (fun t k => XS.icmpNo X0.here hx rfl (hb hby d_method_2_26) rfl (by decide) k) ?_
    show Go _ _ _ _ _ s₁ (mkF m 29 #[.val (.int p1), .val (.int (2 : Int32))] [])
    obtain ⟨T3, X3, e3, st3⟩ := getS2 X0 hx hZ hown (host := "") (Or.inl (hw _ (List.mem_of_getElem? (i := 36) rfl))) Via.refl e0 S_C2 (g := (mkF m 29 #[.val (.int p1), .val (.int (2 : Int32))] [])) rfl (hb hby d_method_2_29)
    refine own_go (fun t k => st3 t k) ?_
    show Go _ _ _ _ _ T3 (mkF m 32 #[.val (.int p1), .val (.int (2 : Int32))] [(.ref w_C2)])
    refine own_retA X3 hx (own_lvN X3 hlk (by decide) (by decide)) hret rfl rfl (hb hby d_method_2_32) ?_
    exact ⟨(by rw [← hj]; try rfl), N0, e3⟩
  · skip
    show Go _ _ _ _ _ s₁ (mkF m 7 #[.val (.int p1), .val (.int (3 : Int32))] [])
    refine own_go (fun t k => XS.iloadN X0.here hx rfl (hb hby d_method_2_7) rfl k) ?_
    show Go _ _ _ _ _ s₁ (mkF m 8 #[.val (.int p1), .val (.int (3 : Int32))] [(.int (3 : Int32))])
    refine own_go (fun t k => XS.ifYes X0.here hx rfl (pc0 := 8) (pc' := 15) rfl (hb hby d_method_2_8) rfl (by decide) (by decide) (by decide) k) ?_
    show Go _ _ _ _ _ s₁ (mkF m 15 #[.val (.int p1), .val (.int (3 : Int32))] [])
    refine own_go (fun t k => XS.iloadN X0.here hx rfl (hb hby d_method_2_15) rfl k) ?_
    show Go _ _ _ _ _ s₁ (mkF m 16 #[.val (.int p1), .val (.int (3 : Int32))] [(.int (3 : Int32))])
    refine own_go (fun t k => XS.iconst X0.here hx rfl (hb hby d_method_2_16) k) ?_
    show Go _ _ _ _ _ s₁ (mkF m 17 #[.val (.int p1), .val (.int (3 : Int32))] [(.int (1 : Int32)), (.int (3 : Int32))])
    refine own_go (fun t k => XS.icmpYes X0.here hx rfl (pc0 := 17) (pc' := 24) rfl (hb hby d_method_2_17) rfl (by decide) (by decide) (by decide) k) ?_
    show Go _ _ _ _ _ s₁ (mkF m 24 #[.val (.int p1), .val (.int (3 : Int32))] [])
    refine own_go (fun t k => XS.iloadN X0.here hx rfl (hb hby d_method_2_24) rfl k) ?_
    show Go _ _ _ _ _ s₁ (mkF m 25 #[.val (.int p1), .val (.int (3 : Int32))] [(.int (3 : Int32))])
    refine own_go (fun t k => XS.iconst X0.here hx rfl (hb hby d_method_2_25) k) ?_
    show Go _ _ _ _ _ s₁ (mkF m 26 #[.val (.int p1), .val (.int (3 : Int32))] [(.int (2 : Int32)), (.int (3 : Int32))])
    refine own_go (fun t k => XS.icmpYes X0.here hx rfl (pc0 := 26) (pc' := 33) rfl (hb hby d_method_2_26) rfl (by decide) (by decide) (by decide) k) ?_
    show Go _ _ _ _ _ s₁ (mkF m 33 #[.val (.int p1), .val (.int (3 : Int32))] [])
    refine own_go (fun t k => XS.iloadN X0.here hx rfl (hb hby d_method_2_33) rfl k) ?_
    show Go _ _ _ _ _ s₁ (mkF m 34 #[.val (.int p1), .val (.int (3 : Int32))] [(.int (3 : Int32))])
    refine own_go (fun t k => XS.iconst X0.here hx rfl (hb hby d_method_2_34) k) ?_
    show Go _ _ _ _ _ s₁ (mkF m 35 #[.val (.int p1), .val (.int (3 : Int32))] [(.int (3 : Int32)), (.int (3 : Int32))])
    refine own_go (fun t k => XS.icmpNo X0.here hx rfl (hb hby d_method_2_35) rfl (by decide) k) ?_
    show Go _ _ _ _ _ s₁ (mkF m 38 #[.val (.int p1), .val (.int (3 : Int32))] [])
    obtain ⟨T4, X4, e4, st4⟩ := getS2 X0 hx hZ hown (host := "") (Or.inl (hw _ (List.mem_of_getElem? (i := 5) rfl))) Via.refl e0 S_C3 (g := (mkF m 38 #[.val (.int p1), .val (.int (3 : Int32))] [])) rfl (hb hby d_method_2_38)
    refine own_go (fun t k => st4 t k) ?_
    show Go _ _ _ _ _ T4 (mkF m 41 #[.val (.int p1), .val (.int (3 : Int32))] [(.ref w_C3)])
    refine own_retA X4 hx (own_lvN X4 hlk (by decide) (by decide)) hret rfl rfl (hb hby d_method_2_41) ?_
    exact ⟨(by rw [← hj]; try rfl), N0, e4⟩
  · skip
    show Go _ _ _ _ _ s₁ (mkF m 7 #[.val (.int p1), .val (.int (4 : Int32))] [])
    refine own_go (fun t k => XS.iloadN X0.here hx rfl (hb hby d_method_2_7) rfl k) ?_
    show Go _ _ _ _ _ s₁ (mkF m 8 #[.val (.int p1), .val (.int (4 : Int32))] [(.int (4 : Int32))])
    refine own_go (fun t k => XS.ifYes X0.here hx rfl (pc0 := 8) (pc' := 15) rfl (hb hby d_method_2_8) rfl (by decide) (by decide) (by decide) k) ?_
    show Go _ _ _ _ _ s₁ (mkF m 15 #[.val (.int p1), .val (.int (4 : Int32))] [])
    refine own_go (fun t k => XS.iloadN X0.here hx rfl (hb hby d_method_2_15) rfl k) ?_
    show Go _ _ _ _ _ s₁ (mkF m 16 #[.val (.int p1), .val (.int (4 : Int32))] [(.int (4 : Int32))])
    refine own_go (fun t k => XS.iconst X0.here hx rfl (hb hby d_method_2_16) k) ?_
    show Go _ _ _ _ _ s₁ (mkF m 17 #[.val (.int p1), .val (.int (4 : Int32))] [(.int (1 : Int32)), (.int (4 : Int32))])
    refine own_go (fun t k => XS.icmpYes X0.here hx rfl (pc0 := 17) (pc' := 24) rfl (hb hby d_method_2_17) rfl (by decide) (by decide) (by decide) k) ?_
    show Go _ _ _ _ _ s₁ (mkF m 24 #[.val (.int p1), .val (.int (4 : Int32))] [])
    refine own_go (fun t k => XS.iloadN X0.here hx rfl (hb hby d_method_2_24) rfl k) ?_
    show Go _ _ _ _ _ s₁ (mkF m 25 #[.val (.int p1), .val (.int (4 : Int32))] [(.int (4 : Int32))])
    refine own_go (fun t k => XS.iconst X0.here hx rfl (hb hby d_method_2_25) k) ?_
    show Go _ _ _ _ _ s₁ (mkF m 26 #[.val (.int p1), .val (.int (4 : Int32))] [(.int (2 : Int32)), (.int (4 : Int32))])
    refine own_go (fun t k => XS.icmpYes X0.here hx rfl (pc0 := 26) (pc' := 33) rfl (hb hby d_method_2_26) rfl (by decide) (by decide) (by decide) k) ?_
    show Go _ _ _ _ _ s₁ (mkF m 33 #[.val (.int p1), .val (.int (4 : Int32))] [])
    refine own_go (fun t k => XS.iloadN X0.here hx rfl (hb hby d_method_2_33) rfl k) ?_
    show Go _ _ _ _ _ s₁ (mkF m 34 #[.val (.int p1), .val (.int (4 : Int32))] [(.int (4 : Int32))])
    refine own_go (fun t k => XS.iconst X0.here hx rfl (hb hby d_method_2_34) k) ?_
    show Go _ _ _ _ _ s₁ (mkF m 35 #[.val (.int p1), .val (.int (4 : Int32))] [(.int (3 : Int32)), (.int (4 : Int32))])
    refine own_go (fun t k => XS.icmpYes X0.here hx rfl (pc0 := 35) (pc' := 42) rfl (hb hby d_method_2_35) rfl (by decide) (by decide) (by decide) k) ?_
    show Go _ _ _ _ _ s₁ (mkF m 42 #[.val (.int p1), .val (.int (4 : Int32))] [])
    obtain ⟨T5, X5, e5, st5⟩ := getS2 X0 hx hZ hown (host := "") (Or.inl (hw _ (List.mem_of_getElem? (i := 53) rfl))) Via.refl e0 S_C4 (g := (mkF m 42 #[.val (.int p1), .val (.int (4 : Int32))] [])) rfl (hb hby d_method_2_42)
    refine own_go (fun t k => st5 t k) ?_
    show Go _ _ _ _ _ T5 (mkF m 45 #[.val (.int p1), .val (.int (4 : Int32))] [(.ref w_C4)])
    refine own_retA X5 hx (own_lvN X5 hlk (by decide) (by decide)) hret rfl rfl (hb hby d_method_2_45) ?_
    exact ⟨(by rw [← hj]; try rfl), N0, e5⟩
def OwnQ_rm7 (Z : State) (a1 : Addr) (p1 : Int32) (p2 : Int64) (p3 : Int32) (p4 : Int32) (h0 : Heap) (n0 : Nat) (v : Option Value) (h : Heap) (L : List Loc) : Prop := v = none ∧ Fr n0 L ∧ Keep h0 h [a1] ∧ Exa Z h a1 "com/example/term_weight_evolver/termweightevolver/constraints/Probe" ∧ Fld Z h a1 "com/example/term_weight_evolver/termweightevolver/constraints/Probe" "df" "I" (.int p1) ∧ Fld Z h a1 "com/example/term_weight_evolver/termweightevolver/constraints/Probe" "cf" "J" (.long p2) ∧ Fld Z h a1 "com/example/term_weight_evolver/termweightevolver/constraints/Probe" "tf" "I" (.int p3) ∧ Fld Z h a1 "com/example/term_weight_evolver/termweightevolver/constraints/Probe" "dl" "I" (.int p4)
theorem d_prog_5_method_1_0 : Jvm.ClassFile.decode prog_5_method_1_code 0 = .ok (.aload_n 0, 1) := by decide +kernel
theorem d_prog_5_method_1_1 : Jvm.ClassFile.decode prog_5_method_1_code 1 = .ok (.invokespecial 1, 3) := by decide +kernel
theorem d_prog_5_method_1_4 : Jvm.ClassFile.decode prog_5_method_1_code 4 = .ok (.aload_n 0, 1) := by decide +kernel
theorem d_prog_5_method_1_5 : Jvm.ClassFile.decode prog_5_method_1_code 5 = .ok (.iload_n 1, 1) := by decide +kernel
theorem d_prog_5_method_1_6 : Jvm.ClassFile.decode prog_5_method_1_code 6 = .ok (.putfield 7, 3) := by decide +kernel
theorem d_prog_5_method_1_9 : Jvm.ClassFile.decode prog_5_method_1_code 9 = .ok (.aload_n 0, 1) := by decide +kernel
theorem d_prog_5_method_1_10 : Jvm.ClassFile.decode prog_5_method_1_code 10 = .ok (.lload_n 2, 1) := by decide +kernel
theorem d_prog_5_method_1_11 : Jvm.ClassFile.decode prog_5_method_1_code 11 = .ok (.putfield 13, 3) := by decide +kernel
theorem d_prog_5_method_1_14 : Jvm.ClassFile.decode prog_5_method_1_code 14 = .ok (.aload_n 0, 1) := by decide +kernel
theorem d_prog_5_method_1_15 : Jvm.ClassFile.decode prog_5_method_1_code 15 = .ok (.iload 4, 2) := by decide +kernel
theorem d_prog_5_method_1_17 : Jvm.ClassFile.decode prog_5_method_1_code 17 = .ok (.putfield 17, 3) := by decide +kernel
theorem d_prog_5_method_1_20 : Jvm.ClassFile.decode prog_5_method_1_code 20 = .ok (.aload_n 0, 1) := by decide +kernel
theorem d_prog_5_method_1_21 : Jvm.ClassFile.decode prog_5_method_1_code 21 = .ok (.iload 5, 2) := by decide +kernel
theorem d_prog_5_method_1_23 : Jvm.ClassFile.decode prog_5_method_1_code 23 = .ok (.putfield 20, 3) := by decide +kernel
theorem d_prog_5_method_1_26 : Jvm.ClassFile.decode prog_5_method_1_code 26 = .ok (.return_, 1) := by decide +kernel
theorem own_pn1 : plainName "com/example/term_weight_evolver/termweightevolver/constraints/Probe" = true := by first | (simp [plainName, overriddenIn]; done) | decide +kernel
theorem own_ef_rm7 (m : MethodId) (x0 : Addr) (x1 : Int32) (x2 : Int64) (x3 : Int32) (x4 : Int32) : entryFrame m #[(.ref x0), (.int x1), (.long x2), (.int x3), (.int x4)] 6 = mkF m 0 #[.val (.ref x0), .val (.int x1), .val (.long x2), .second, .val (.int x3), .val (.int x4)] [] := by first | (simp [entryFrame, mkF, argsToLocals, Value.category]; done) | rfl
set_option maxRecDepth 65536 in
set_option maxHeartbeats 40000000 in
theorem rm7 (l : Launch) (Z : State) (a0 : Array Value) (hw : ∀ d ∈ tables_1, d.before a0 Z = true) (ws : List Jvm.Cond) (a1 : Addr) (p1 : Int32) (p2 : Int64) (p3 : Int32) (p4 : Int32) (h0 : Heap) (n0 : Nat) (hn0 : n0 ≤ h0.size) (E_a1 : Exa Z h0 a1 "com/example/term_weight_evolver/termweightevolver/constraints/Probe") (g_a1 : n0 ≤ a1) (F_df : Fld Z h0 a1 "com/example/term_weight_evolver/termweightevolver/constraints/Probe" "df" "I" (.int (0 : Int32))) (F_cf : Fld Z h0 a1 "com/example/term_weight_evolver/termweightevolver/constraints/Probe" "cf" "J" (.long (0 : Int64))) (F_tf : Fld Z h0 a1 "com/example/term_weight_evolver/termweightevolver/constraints/Probe" "tf" "I" (.int (0 : Int32))) (F_dl : Fld Z h0 a1 "com/example/term_weight_evolver/termweightevolver/constraints/Probe" "dl" "I" (.int (0 : Int32))) :
    OwnMet l Z (⟨"com/example/term_weight_evolver/termweightevolver/constraints/Probe", "<init>", "(IJII)V"⟩ : MethodName) prog_5_method_1_code 6 none ws ({ frames := 1, cells := 0, slots := 0, locals := 12 } : Room) #[(.ref a1), (.int p1), (.long p2), (.int p3), (.int p4)] h0 (OwnQ_rm7 Z a1 p1 p2 p3 p4 h0 n0) := by
  refine own_body (plainFor_of_name own_pn1) ?_
  intro p e s m below meth c s₁ X0 hx hby hml hret hlk hown0 hnm hZ e0 hs0
  have hown : s.vm.findClass "com/example/term_weight_evolver/termweightevolver/constraints/Probe" = some m.cls := hown0
  have N0 := Fr.nil n0
  refine own_entry (own_ef_rm7 m a1 p1 p2 p3 p4) ?_
  have K0 := Keep.refl h0 [a1]
  show Go _ _ _ _ _ s₁ (mkF m 0 #[.val (.ref a1), .val (.int p1), .val (.long p2), .second, .val (.int p3), .val (.int p4)] [])
  refine own_go (fun t k => XS.aloadN X0.here hx rfl (hb hby d_prog_5_method_1_0) rfl rfl k) ?_
  show Go _ _ _ _ _ s₁ (mkF m 1 #[.val (.ref a1), .val (.int p1), .val (.long p2), .second, .val (.int p3), .val (.int p4)] [(.ref a1)])
  obtain ⟨T6, X6, e6, st6⟩ := initO X0 hx hZ hown (hw _ (List.mem_of_getElem? (i := 44) rfl)) (hw _ (List.mem_of_getElem? (i := 15) rfl)) (hw _ (List.mem_of_getElem? (i := 16) rfl)) e0 (g := (mkF m 1 #[.val (.ref a1), .val (.int p1), .val (.long p2), .second, .val (.int p3), .val (.int p4)] [(.ref a1)])) rfl (by rw [hml]; rfl) rfl (hb hby d_prog_5_method_1_1) (by decide) (W := 0) (by show 2 * 0 + _ ≤ _; exact Nat.le_of_eq rfl) (by decide)
  refine own_go (fun t k => st6 t k) ?_
  show Go _ _ _ _ _ T6 (mkF m 4 #[.val (.ref a1), .val (.int p1), .val (.long p2), .second, .val (.int p3), .val (.int p4)] [])
  refine own_go (fun t k => XS.aloadN X6.here hx rfl (hb hby d_prog_5_method_1_4) rfl rfl k) ?_
  show Go _ _ _ _ _ T6 (mkF m 5 #[.val (.ref a1), .val (.int p1), .val (.long p2), .second, .val (.int p3), .val (.int p4)] [(.ref a1)])
  refine own_go (fun t k => XS.iloadN X6.here hx rfl (hb hby d_prog_5_method_1_5) rfl k) ?_
  show Go _ _ _ _ _ T6 (mkF m 6 #[.val (.ref a1), .val (.int p1), .val (.long p2), .second, .val (.int p3), .val (.int p4)] [(.int p1), (.ref a1)])
  obtain ⟨T7, h7, X7, e7, W7, st7⟩ := putF X6 hx hZ hown (host := "") (Or.inl (hw _ (List.mem_of_getElem? (i := 45) rfl))) Via.refl e6 F_df E_a1 (Or.inr ⟨(hw _ (List.mem_of_getElem? (i := 46) rfl)), rfl, hnm⟩) (hw _ (List.mem_of_getElem? (i := 39) rfl)) (ty := .int) (by decide) rfl rfl (g := (mkF m 6 #[.val (.ref a1), .val (.int p1), .val (.long p2), .second, .val (.int p3), .val (.int p4)] [(.int p1), (.ref a1)])) rfl rfl (hb hby d_prog_5_method_1_6)
  replace E_a1 := E_a1.wr W7
  replace F_df := F_df.same W7
  replace F_cf := F_cf.other W7 (Or.inr (slot_ne (Or.inr (hw _ (List.mem_of_getElem? (i := 48) rfl))) (Or.inr (hw _ (List.mem_of_getElem? (i := 46) rfl))) (by decide) (t := .long) (t' := .int) (by decide) (by decide)))
  replace F_tf := F_tf.other W7 (Or.inr (slot_ne (Or.inr (hw _ (List.mem_of_getElem? (i := 50) rfl))) (Or.inr (hw _ (List.mem_of_getElem? (i := 46) rfl))) (by decide) (t := .int) (t' := .int) (by decide) (by decide)))
  replace F_dl := F_dl.other W7 (Or.inr (slot_ne (Or.inr (hw _ (List.mem_of_getElem? (i := 52) rfl))) (Or.inr (hw _ (List.mem_of_getElem? (i := 46) rfl))) (by decide) (t := .int) (t' := .int) (by decide) (by decide)))
  have N7 := Fr.snoc X7 N0 g_a1
  have hn7 : n0 ≤ h7.size := Nat.le_trans hn0 (Keep.of_wr W7).1
  have K7 := K0.wr W7 (Or.inl (List.mem_of_getElem? (i := 0) rfl))
  refine own_go (fun t k => st7 t k) ?_
  show Go _ _ _ _ _ T7 (mkF m 9 #[.val (.ref a1), .val (.int p1), .val (.long p2), .second, .val (.int p3), .val (.int p4)] [])
  refine own_go (fun t k => XS.aloadN X7.here hx rfl (hb hby d_prog_5_method_1_9) rfl rfl k) ?_
  show Go _ _ _ _ _ T7 (mkF m 10 #[.val (.ref a1), .val (.int p1), .val (.long p2), .second, .val (.int p3), .val (.int p4)] [(.ref a1)])
  refine own_go (fun t k => XS.lloadN X7.here hx rfl (hb hby d_prog_5_method_1_10) rfl k) ?_
  show Go _ _ _ _ _ T7 (mkF m 11 #[.val (.ref a1), .val (.int p1), .val (.long p2), .second, .val (.int p3), .val (.int p4)] [(.long p2), (.ref a1)])
  obtain ⟨T8, h8, X8, e8, W8, st8⟩ := putF X7 hx hZ hown (host := "") (Or.inl (hw _ (List.mem_of_getElem? (i := 47) rfl))) Via.refl e7 F_cf E_a1 (Or.inr ⟨(hw _ (List.mem_of_getElem? (i := 48) rfl)), rfl, hnm⟩) (hw _ (List.mem_of_getElem? (i := 39) rfl)) (ty := .long) (by decide) rfl rfl (g := (mkF m 11 #[.val (.ref a1), .val (.int p1), .val (.long p2), .second, .val (.int p3), .val (.int p4)] [(.long p2), (.ref a1)])) rfl rfl (hb hby d_prog_5_method_1_11)
  replace E_a1 := E_a1.wr W8
  replace F_df := F_df.other W8 (Or.inr (slot_ne (Or.inr (hw _ (List.mem_of_getElem? (i := 46) rfl))) (Or.inr (hw _ (List.mem_of_getElem? (i := 48) rfl))) (by decide) (t := .int) (t' := .long) (by decide) (by decide)))
  replace F_cf := F_cf.same W8
  replace F_tf := F_tf.other W8 (Or.inr (slot_ne (Or.inr (hw _ (List.mem_of_getElem? (i := 50) rfl))) (Or.inr (hw _ (List.mem_of_getElem? (i := 48) rfl))) (by decide) (t := .int) (t' := .long) (by decide) (by decide)))
  replace F_dl := F_dl.other W8 (Or.inr (slot_ne (Or.inr (hw _ (List.mem_of_getElem? (i := 52) rfl))) (Or.inr (hw _ (List.mem_of_getElem? (i := 48) rfl))) (by decide) (t := .int) (t' := .long) (by decide) (by decide)))
  have N8 := Fr.snoc X8 N7 g_a1
  have hn8 : n0 ≤ h8.size := Nat.le_trans hn7 (Keep.of_wr W8).1
  have K8 := K7.wr W8 (Or.inl (List.mem_of_getElem? (i := 0) rfl))
  refine own_go (fun t k => st8 t k) ?_
  show Go _ _ _ _ _ T8 (mkF m 14 #[.val (.ref a1), .val (.int p1), .val (.long p2), .second, .val (.int p3), .val (.int p4)] [])
  refine own_go (fun t k => XS.aloadN X8.here hx rfl (hb hby d_prog_5_method_1_14) rfl rfl k) ?_
  show Go _ _ _ _ _ T8 (mkF m 15 #[.val (.ref a1), .val (.int p1), .val (.long p2), .second, .val (.int p3), .val (.int p4)] [(.ref a1)])
  refine own_go (fun t k => XS.iload X8.here hx rfl (hb hby d_prog_5_method_1_15) rfl k) ?_
  show Go _ _ _ _ _ T8 (mkF m 17 #[.val (.ref a1), .val (.int p1), .val (.long p2), .second, .val (.int p3), .val (.int p4)] [(.int p3), (.ref a1)])
  obtain ⟨T9, h9, X9, e9, W9, st9⟩ := putF X8 hx hZ hown (host := "") (Or.inl (hw _ (List.mem_of_getElem? (i := 49) rfl))) Via.refl e8 F_tf E_a1 (Or.inr ⟨(hw _ (List.mem_of_getElem? (i := 50) rfl)), rfl, hnm⟩) (hw _ (List.mem_of_getElem? (i := 39) rfl)) (ty := .int) (by decide) rfl rfl (g := (mkF m 17 #[.val (.ref a1), .val (.int p1), .val (.long p2), .second, .val (.int p3), .val (.int p4)] [(.int p3), (.ref a1)])) rfl rfl (hb hby d_prog_5_method_1_17)
  replace E_a1 := E_a1.wr W9
  replace F_df := F_df.other W9 (Or.inr (slot_ne (Or.inr (hw _ (List.mem_of_getElem? (i := 46) rfl))) (Or.inr (hw _ (List.mem_of_getElem? (i := 50) rfl))) (by decide) (t := .int) (t' := .int) (by decide) (by decide)))
  replace F_cf := F_cf.other W9 (Or.inr (slot_ne (Or.inr (hw _ (List.mem_of_getElem? (i := 48) rfl))) (Or.inr (hw _ (List.mem_of_getElem? (i := 50) rfl))) (by decide) (t := .long) (t' := .int) (by decide) (by decide)))
  replace F_tf := F_tf.same W9
  replace F_dl := F_dl.other W9 (Or.inr (slot_ne (Or.inr (hw _ (List.mem_of_getElem? (i := 52) rfl))) (Or.inr (hw _ (List.mem_of_getElem? (i := 50) rfl))) (by decide) (t := .int) (t' := .int) (by decide) (by decide)))
  have N9 := Fr.snoc X9 N8 g_a1
  have hn9 : n0 ≤ h9.size := Nat.le_trans hn8 (Keep.of_wr W9).1
  have K9 := K8.wr W9 (Or.inl (List.mem_of_getElem? (i := 0) rfl))
  refine own_go (fun t k => st9 t k) ?_
  show Go _ _ _ _ _ T9 (mkF m 20 #[.val (.ref a1), .val (.int p1), .val (.long p2), .second, .val (.int p3), .val (.int p4)] [])
  refine own_go (fun t k => XS.aloadN X9.here hx rfl (hb hby d_prog_5_method_1_20) rfl rfl k) ?_
  show Go _ _ _ _ _ T9 (mkF m 21 #[.val (.ref a1), .val (.int p1), .val (.long p2), .second, .val (.int p3), .val (.int p4)] [(.ref a1)])
  refine own_go (fun t k => XS.iload X9.here hx rfl (hb hby d_prog_5_method_1_21) rfl k) ?_
  show Go _ _ _ _ _ T9 (mkF m 23 #[.val (.ref a1), .val (.int p1), .val (.long p2), .second, .val (.int p3), .val (.int p4)] [(.int p4), (.ref a1)])
  obtain ⟨T10, h10, X10, e10, W10, st10⟩ := putF X9 hx hZ hown (host := "") (Or.inl (hw _ (List.mem_of_getElem? (i := 51) rfl))) Via.refl e9 F_dl E_a1 (Or.inr ⟨(hw _ (List.mem_of_getElem? (i := 52) rfl)), rfl, hnm⟩) (hw _ (List.mem_of_getElem? (i := 39) rfl)) (ty := .int) (by decide) rfl rfl (g := (mkF m 23 #[.val (.ref a1), .val (.int p1), .val (.long p2), .second, .val (.int p3), .val (.int p4)] [(.int p4), (.ref a1)])) rfl rfl (hb hby d_prog_5_method_1_23)
  replace E_a1 := E_a1.wr W10
  replace F_df := F_df.other W10 (Or.inr (slot_ne (Or.inr (hw _ (List.mem_of_getElem? (i := 46) rfl))) (Or.inr (hw _ (List.mem_of_getElem? (i := 52) rfl))) (by decide) (t := .int) (t' := .int) (by decide) (by decide)))
  replace F_cf := F_cf.other W10 (Or.inr (slot_ne (Or.inr (hw _ (List.mem_of_getElem? (i := 48) rfl))) (Or.inr (hw _ (List.mem_of_getElem? (i := 52) rfl))) (by decide) (t := .long) (t' := .int) (by decide) (by decide)))
  replace F_tf := F_tf.other W10 (Or.inr (slot_ne (Or.inr (hw _ (List.mem_of_getElem? (i := 50) rfl))) (Or.inr (hw _ (List.mem_of_getElem? (i := 52) rfl))) (by decide) (t := .int) (t' := .int) (by decide) (by decide)))
  replace F_dl := F_dl.same W10
  have N10 := Fr.snoc X10 N9 g_a1
  have hn10 : n0 ≤ h10.size := Nat.le_trans hn9 (Keep.of_wr W10).1
  have K10 := K9.wr W10 (Or.inl (List.mem_of_getElem? (i := 0) rfl))
  refine own_go (fun t k => st10 t k) ?_
  show Go _ _ _ _ _ T10 (mkF m 26 #[.val (.ref a1), .val (.int p1), .val (.long p2), .second, .val (.int p3), .val (.int p4)] [])
  refine own_retV X10 hx (own_lvN X10 hlk (by decide) (by decide)) hret (hb hby d_prog_5_method_1_26) ?_
  rw [e10]
  exact ⟨rfl, N10, K10, E_a1, F_df, F_cf, F_tf, F_dl⟩
def OwnQ_rm_vinit_null (Z : State) (a1 : Addr) (p1 : Addr) (h0 : Heap) (n0 : Nat) (v : Option Value) (h : Heap) (L : List Loc) : Prop := v = none ∧ Fr n0 L ∧ Keep h0 h [a1] ∧ Exa Z h a1 "com/example/term_weight_evolver/termweightevolver/constraints/Verdict" ∧ Fld Z h a1 "com/example/term_weight_evolver/termweightevolver/constraints/Verdict" "constraint" "Lcom/example/term_weight_evolver/termweightevolver/constraints/Constraint;" (.ref p1) ∧ Fld Z h a1 "com/example/term_weight_evolver/termweightevolver/constraints/Verdict" "violation" "Lcom/example/term_weight_evolver/termweightevolver/constraints/Probe;" .null
theorem d_prog_6_method_1_0 : Jvm.ClassFile.decode prog_6_method_1_code 0 = .ok (.aload_n 0, 1) := by decide +kernel
theorem d_prog_6_method_1_1 : Jvm.ClassFile.decode prog_6_method_1_code 1 = .ok (.invokespecial 1, 3) := by decide +kernel
theorem d_prog_6_method_1_4 : Jvm.ClassFile.decode prog_6_method_1_code 4 = .ok (.aload_n 0, 1) := by decide +kernel
theorem d_prog_6_method_1_5 : Jvm.ClassFile.decode prog_6_method_1_code 5 = .ok (.aload_n 1, 1) := by decide +kernel
theorem d_prog_6_method_1_6 : Jvm.ClassFile.decode prog_6_method_1_code 6 = .ok (.putfield 7, 3) := by decide +kernel
theorem d_prog_6_method_1_9 : Jvm.ClassFile.decode prog_6_method_1_code 9 = .ok (.aload_n 0, 1) := by decide +kernel
theorem d_prog_6_method_1_10 : Jvm.ClassFile.decode prog_6_method_1_code 10 = .ok (.aload_n 2, 1) := by decide +kernel
theorem d_prog_6_method_1_11 : Jvm.ClassFile.decode prog_6_method_1_code 11 = .ok (.putfield 13, 3) := by decide +kernel
theorem d_prog_6_method_1_14 : Jvm.ClassFile.decode prog_6_method_1_code 14 = .ok (.return_, 1) := by decide +kernel
theorem own_pn2 : plainName "com/example/term_weight_evolver/termweightevolver/constraints/Verdict" = true := by first | (simp [plainName, overriddenIn]; done) | decide +kernel
theorem own_ef_rm_vinit_null (m : MethodId) (x0 : Addr) (x1 : Addr) : entryFrame m #[(.ref x0), (.ref x1), .null] 3 = mkF m 0 #[.val (.ref x0), .val (.ref x1), .val .null] [] := by first | (simp [entryFrame, mkF, argsToLocals, Value.category]; done) | rfl
set_option maxRecDepth 65536 in
set_option maxHeartbeats 40000000 in
theorem rm_vinit_null (l : Launch) (Z : State) (a0 : Array Value) (hw : ∀ d ∈ tables_1, d.before a0 Z = true) (ws : List Jvm.Cond) (a1 : Addr) (p1 : Addr) (h0 : Heap) (n0 : Nat) (hn0 : n0 ≤ h0.size) (E_a1 : Exa Z h0 a1 "com/example/term_weight_evolver/termweightevolver/constraints/Verdict") (g_a1 : n0 ≤ a1) (F_constraint : Fld Z h0 a1 "com/example/term_weight_evolver/termweightevolver/constraints/Verdict" "constraint" "Lcom/example/term_weight_evolver/termweightevolver/constraints/Constraint;" .null) (F_violation : Fld Z h0 a1 "com/example/term_weight_evolver/termweightevolver/constraints/Verdict" "violation" "Lcom/example/term_weight_evolver/termweightevolver/constraints/Probe;" .null) :
    OwnMet l Z (⟨"com/example/term_weight_evolver/termweightevolver/constraints/Verdict", "<init>", "(Lcom/example/term_weight_evolver/termweightevolver/constraints/Constraint;Lcom/example/term_weight_evolver/termweightevolver/constraints/Probe;)V"⟩ : MethodName) prog_6_method_1_code 3 none ws ({ frames := 1, cells := 0, slots := 0, locals := 12 } : Room) #[(.ref a1), (.ref p1), .null] h0 (OwnQ_rm_vinit_null Z a1 p1 h0 n0) := by
  refine own_body (plainFor_of_name own_pn2) ?_
  intro p e s m below meth c s₁ X0 hx hby hml hret hlk hown0 hnm hZ e0 hs0
  have hown : s.vm.findClass "com/example/term_weight_evolver/termweightevolver/constraints/Verdict" = some m.cls := hown0
  have N0 := Fr.nil n0
  refine own_entry (own_ef_rm_vinit_null m a1 p1) ?_
  have K0 := Keep.refl h0 [a1]
  show Go _ _ _ _ _ s₁ (mkF m 0 #[.val (.ref a1), .val (.ref p1), .val .null] [])
  refine own_go (fun t k => XS.aloadN X0.here hx rfl (hb hby d_prog_6_method_1_0) rfl rfl k) ?_
  show Go _ _ _ _ _ s₁ (mkF m 1 #[.val (.ref a1), .val (.ref p1), .val .null] [(.ref a1)])
  obtain ⟨T11, X11, e11, st11⟩ := initO X0 hx hZ hown (hw _ (List.mem_of_getElem? (i := 14) rfl)) (hw _ (List.mem_of_getElem? (i := 15) rfl)) (hw _ (List.mem_of_getElem? (i := 16) rfl)) e0 (g := (mkF m 1 #[.val (.ref a1), .val (.ref p1), .val .null] [(.ref a1)])) rfl (by rw [hml]; rfl) rfl (hb hby d_prog_6_method_1_1) (by decide) (W := 0) (by show 2 * 0 + _ ≤ _; exact Nat.le_of_eq rfl) (by decide)
  refine own_go (fun t k => st11 t k) ?_
  show Go _ _ _ _ _ T11 (mkF m 4 #[.val (.ref a1), .val (.ref p1), .val .null] [])
  refine own_go (fun t k => XS.aloadN X11.here hx rfl (hb hby d_prog_6_method_1_4) rfl rfl k) ?_
  show Go _ _ _ _ _ T11 (mkF m 5 #[.val (.ref a1), .val (.ref p1), .val .null] [(.ref a1)])
  refine own_go (fun t k => XS.aloadN X11.here hx rfl (hb hby d_prog_6_method_1_5) rfl rfl k) ?_
  show Go _ _ _ _ _ T11 (mkF m 6 #[.val (.ref a1), .val (.ref p1), .val .null] [(.ref p1), (.ref a1)])
  obtain ⟨T12, h12, X12, e12, W12, st12⟩ := putF X11 hx hZ hown (host := "") (Or.inl (hw _ (List.mem_of_getElem? (i := 17) rfl))) Via.refl e11 F_constraint E_a1 (Or.inr ⟨(hw _ (List.mem_of_getElem? (i := 18) rfl)), rfl, hnm⟩) (hw _ (List.mem_of_getElem? (i := 9) rfl)) (ty := (.object "com/example/term_weight_evolver/termweightevolver/constraints/Constraint")) (by decide) rfl rfl (g := (mkF m 6 #[.val (.ref a1), .val (.ref p1), .val .null] [(.ref p1), (.ref a1)])) rfl rfl (hb hby d_prog_6_method_1_6)
  replace E_a1 := E_a1.wr W12
  replace F_constraint := F_constraint.same W12
  replace F_violation := F_violation.other W12 (Or.inr (slot_ne (Or.inr (hw _ (List.mem_of_getElem? (i := 20) rfl))) (Or.inr (hw _ (List.mem_of_getElem? (i := 18) rfl))) (by decide) (t := (.object "com/example/term_weight_evolver/termweightevolver/constraints/Probe")) (t' := (.object "com/example/term_weight_evolver/termweightevolver/constraints/Constraint")) (by decide) (by decide)))
  have N12 := Fr.snoc X12 N0 g_a1
  have hn12 : n0 ≤ h12.size := Nat.le_trans hn0 (Keep.of_wr W12).1
  have K12 := K0.wr W12 (Or.inl (List.mem_of_getElem? (i := 0) rfl))
  refine own_go (fun t k => st12 t k) ?_
  show Go _ _ _ _ _ T12 (mkF m 9 #[.val (.ref a1), .val (.ref p1), .val .null] [])
  refine own_go (fun t k => XS.aloadN X12.here hx rfl (hb hby d_prog_6_method_1_9) rfl rfl k) ?_
  show Go _ _ _ _ _ T12 (mkF m 10 #[.val (.ref a1), .val (.ref p1), .val .null] [(.ref a1)])
  refine own_go (fun t k => XS.aloadN X12.here hx rfl (hb hby d_prog_6_method_1_10) rfl rfl k) ?_
  show Go _ _ _ _ _ T12 (mkF m 11 #[.val (.ref a1), .val (.ref p1), .val .null] [.null, (.ref a1)])
  obtain ⟨T13, h13, X13, e13, W13, st13⟩ := putF X12 hx hZ hown (host := "") (Or.inl (hw _ (List.mem_of_getElem? (i := 19) rfl))) Via.refl e12 F_violation E_a1 (Or.inr ⟨(hw _ (List.mem_of_getElem? (i := 20) rfl)), rfl, hnm⟩) (hw _ (List.mem_of_getElem? (i := 9) rfl)) (ty := (.object "com/example/term_weight_evolver/termweightevolver/constraints/Probe")) (by decide) rfl rfl (g := (mkF m 11 #[.val (.ref a1), .val (.ref p1), .val .null] [.null, (.ref a1)])) rfl rfl (hb hby d_prog_6_method_1_11)
  replace E_a1 := E_a1.wr W13
  replace F_constraint := F_constraint.other W13 (Or.inr (slot_ne (Or.inr (hw _ (List.mem_of_getElem? (i := 18) rfl))) (Or.inr (hw _ (List.mem_of_getElem? (i := 20) rfl))) (by decide) (t := (.object "com/example/term_weight_evolver/termweightevolver/constraints/Constraint")) (t' := (.object "com/example/term_weight_evolver/termweightevolver/constraints/Probe")) (by decide) (by decide)))
  replace F_violation := F_violation.same W13
  have N13 := Fr.snoc X13 N12 g_a1
  have hn13 : n0 ≤ h13.size := Nat.le_trans hn12 (Keep.of_wr W13).1
  have K13 := K12.wr W13 (Or.inl (List.mem_of_getElem? (i := 0) rfl))
  refine own_go (fun t k => st13 t k) ?_
  show Go _ _ _ _ _ T13 (mkF m 14 #[.val (.ref a1), .val (.ref p1), .val .null] [])
  refine own_retV X13 hx (own_lvN X13 hlk (by decide) (by decide)) hret (hb hby d_prog_6_method_1_14) ?_
  rw [e13]
  exact ⟨rfl, N13, K13, E_a1, F_constraint, F_violation⟩
def OwnQ_rm_vinit_obj (Z : State) (a1 : Addr) (p1 : Addr) (p2 : Addr) (h0 : Heap) (n0 : Nat) (v : Option Value) (h : Heap) (L : List Loc) : Prop := v = none ∧ Fr n0 L ∧ Keep h0 h [a1] ∧ Exa Z h a1 "com/example/term_weight_evolver/termweightevolver/constraints/Verdict" ∧ Fld Z h a1 "com/example/term_weight_evolver/termweightevolver/constraints/Verdict" "constraint" "Lcom/example/term_weight_evolver/termweightevolver/constraints/Constraint;" (.ref p1) ∧ Fld Z h a1 "com/example/term_weight_evolver/termweightevolver/constraints/Verdict" "violation" "Lcom/example/term_weight_evolver/termweightevolver/constraints/Probe;" (.ref p2)
theorem own_ef_rm_vinit_obj (m : MethodId) (x0 : Addr) (x1 : Addr) (x2 : Addr) : entryFrame m #[(.ref x0), (.ref x1), (.ref x2)] 3 = mkF m 0 #[.val (.ref x0), .val (.ref x1), .val (.ref x2)] [] := by first | (simp [entryFrame, mkF, argsToLocals, Value.category]; done) | rfl
set_option maxRecDepth 65536 in
set_option maxHeartbeats 40000000 in
theorem rm_vinit_obj (l : Launch) (Z : State) (a0 : Array Value) (hw : ∀ d ∈ tables_1, d.before a0 Z = true) (ws : List Jvm.Cond) (a1 : Addr) (p1 : Addr) (p2 : Addr) (h0 : Heap) (n0 : Nat) (hn0 : n0 ≤ h0.size) (E_a1 : Exa Z h0 a1 "com/example/term_weight_evolver/termweightevolver/constraints/Verdict") (g_a1 : n0 ≤ a1) (F_constraint : Fld Z h0 a1 "com/example/term_weight_evolver/termweightevolver/constraints/Verdict" "constraint" "Lcom/example/term_weight_evolver/termweightevolver/constraints/Constraint;" .null) (F_violation : Fld Z h0 a1 "com/example/term_weight_evolver/termweightevolver/constraints/Verdict" "violation" "Lcom/example/term_weight_evolver/termweightevolver/constraints/Probe;" .null) :
    OwnMet l Z (⟨"com/example/term_weight_evolver/termweightevolver/constraints/Verdict", "<init>", "(Lcom/example/term_weight_evolver/termweightevolver/constraints/Constraint;Lcom/example/term_weight_evolver/termweightevolver/constraints/Probe;)V"⟩ : MethodName) prog_6_method_1_code 3 none ws ({ frames := 1, cells := 0, slots := 0, locals := 12 } : Room) #[(.ref a1), (.ref p1), (.ref p2)] h0 (OwnQ_rm_vinit_obj Z a1 p1 p2 h0 n0) := by
  refine own_body (plainFor_of_name own_pn2) ?_
  intro p e s m below meth c s₁ X0 hx hby hml hret hlk hown0 hnm hZ e0 hs0
  have hown : s.vm.findClass "com/example/term_weight_evolver/termweightevolver/constraints/Verdict" = some m.cls := hown0
  have N0 := Fr.nil n0
  refine own_entry (own_ef_rm_vinit_obj m a1 p1 p2) ?_
  have K0 := Keep.refl h0 [a1]
  show Go _ _ _ _ _ s₁ (mkF m 0 #[.val (.ref a1), .val (.ref p1), .val (.ref p2)] [])
  refine own_go (fun t k => XS.aloadN X0.here hx rfl (hb hby d_prog_6_method_1_0) rfl rfl k) ?_
  show Go _ _ _ _ _ s₁ (mkF m 1 #[.val (.ref a1), .val (.ref p1), .val (.ref p2)] [(.ref a1)])
  obtain ⟨T14, X14, e14, st14⟩ := initO X0 hx hZ hown (hw _ (List.mem_of_getElem? (i := 14) rfl)) (hw _ (List.mem_of_getElem? (i := 15) rfl)) (hw _ (List.mem_of_getElem? (i := 16) rfl)) e0 (g := (mkF m 1 #[.val (.ref a1), .val (.ref p1), .val (.ref p2)] [(.ref a1)])) rfl (by rw [hml]; rfl) rfl (hb hby d_prog_6_method_1_1) (by decide) (W := 0) (by show 2 * 0 + _ ≤ _; exact Nat.le_of_eq rfl) (by decide)
  refine own_go (fun t k => st14 t k) ?_
  show Go _ _ _ _ _ T14 (mkF m 4 #[.val (.ref a1), .val (.ref p1), .val (.ref p2)] [])
  refine own_go (fun t k => XS.aloadN X14.here hx rfl (hb hby d_prog_6_method_1_4) rfl rfl k) ?_
  show Go _ _ _ _ _ T14 (mkF m 5 #[.val (.ref a1), .val (.ref p1), .val (.ref p2)] [(.ref a1)])
  refine own_go (fun t k => XS.aloadN X14.here hx rfl (hb hby d_prog_6_method_1_5) rfl rfl k) ?_
  show Go _ _ _ _ _ T14 (mkF m 6 #[.val (.ref a1), .val (.ref p1), .val (.ref p2)] [(.ref p1), (.ref a1)])
  obtain ⟨T15, h15, X15, e15, W15, st15⟩ := putF X14 hx hZ hown (host := "") (Or.inl (hw _ (List.mem_of_getElem? (i := 17) rfl))) Via.refl e14 F_constraint E_a1 (Or.inr ⟨(hw _ (List.mem_of_getElem? (i := 18) rfl)), rfl, hnm⟩) (hw _ (List.mem_of_getElem? (i := 9) rfl)) (ty := (.object "com/example/term_weight_evolver/termweightevolver/constraints/Constraint")) (by decide) rfl rfl (g := (mkF m 6 #[.val (.ref a1), .val (.ref p1), .val (.ref p2)] [(.ref p1), (.ref a1)])) rfl rfl (hb hby d_prog_6_method_1_6)
  replace E_a1 := E_a1.wr W15
  replace F_constraint := F_constraint.same W15
  replace F_violation := F_violation.other W15 (Or.inr (slot_ne (Or.inr (hw _ (List.mem_of_getElem? (i := 20) rfl))) (Or.inr (hw _ (List.mem_of_getElem? (i := 18) rfl))) (by decide) (t := (.object "com/example/term_weight_evolver/termweightevolver/constraints/Probe")) (t' := (.object "com/example/term_weight_evolver/termweightevolver/constraints/Constraint")) (by decide) (by decide)))
  have N15 := Fr.snoc X15 N0 g_a1
  have hn15 : n0 ≤ h15.size := Nat.le_trans hn0 (Keep.of_wr W15).1
  have K15 := K0.wr W15 (Or.inl (List.mem_of_getElem? (i := 0) rfl))
  refine own_go (fun t k => st15 t k) ?_
  show Go _ _ _ _ _ T15 (mkF m 9 #[.val (.ref a1), .val (.ref p1), .val (.ref p2)] [])
  refine own_go (fun t k => XS.aloadN X15.here hx rfl (hb hby d_prog_6_method_1_9) rfl rfl k) ?_
  show Go _ _ _ _ _ T15 (mkF m 10 #[.val (.ref a1), .val (.ref p1), .val (.ref p2)] [(.ref a1)])
  refine own_go (fun t k => XS.aloadN X15.here hx rfl (hb hby d_prog_6_method_1_10) rfl rfl k) ?_
  show Go _ _ _ _ _ T15 (mkF m 11 #[.val (.ref a1), .val (.ref p1), .val (.ref p2)] [(.ref p2), (.ref a1)])
  obtain ⟨T16, h16, X16, e16, W16, st16⟩ := putF X15 hx hZ hown (host := "") (Or.inl (hw _ (List.mem_of_getElem? (i := 19) rfl))) Via.refl e15 F_violation E_a1 (Or.inr ⟨(hw _ (List.mem_of_getElem? (i := 20) rfl)), rfl, hnm⟩) (hw _ (List.mem_of_getElem? (i := 9) rfl)) (ty := (.object "com/example/term_weight_evolver/termweightevolver/constraints/Probe")) (by decide) rfl rfl (g := (mkF m 11 #[.val (.ref a1), .val (.ref p1), .val (.ref p2)] [(.ref p2), (.ref a1)])) rfl rfl (hb hby d_prog_6_method_1_11)
  replace E_a1 := E_a1.wr W16
  replace F_constraint := F_constraint.other W16 (Or.inr (slot_ne (Or.inr (hw _ (List.mem_of_getElem? (i := 18) rfl))) (Or.inr (hw _ (List.mem_of_getElem? (i := 20) rfl))) (by decide) (t := (.object "com/example/term_weight_evolver/termweightevolver/constraints/Constraint")) (t' := (.object "com/example/term_weight_evolver/termweightevolver/constraints/Probe")) (by decide) (by decide)))
  replace F_violation := F_violation.same W16
  have N16 := Fr.snoc X16 N15 g_a1
  have hn16 : n0 ≤ h16.size := Nat.le_trans hn15 (Keep.of_wr W16).1
  have K16 := K15.wr W16 (Or.inl (List.mem_of_getElem? (i := 0) rfl))
  refine own_go (fun t k => st16 t k) ?_
  show Go _ _ _ _ _ T16 (mkF m 14 #[.val (.ref a1), .val (.ref p1), .val (.ref p2)] [])
  refine own_retV X16 hx (own_lvN X16 hlk (by decide) (by decide)) hret (hb hby d_prog_6_method_1_14) ?_
  rw [e16]
  exact ⟨rfl, N16, K16, E_a1, F_constraint, F_violation⟩
theorem d_prog_6_method_3_0 : Jvm.ClassFile.decode prog_6_method_3_code 0 = .ok (.aload_n 0, 1) := by decide +kernel
theorem d_prog_6_method_3_1 : Jvm.ClassFile.decode prog_6_method_3_code 1 = .ok (.getfield 13, 3) := by decide +kernel
theorem d_prog_6_method_3_4 : Jvm.ClassFile.decode prog_6_method_3_code 4 = .ok (.ifnonnull 7, 3) := by decide +kernel
theorem d_prog_6_method_3_7 : Jvm.ClassFile.decode prog_6_method_3_code 7 = .ok (.iconst 1, 1) := by decide +kernel
theorem d_prog_6_method_3_8 : Jvm.ClassFile.decode prog_6_method_3_code 8 = .ok (.goto 4, 3) := by decide +kernel
theorem d_prog_6_method_3_12 : Jvm.ClassFile.decode prog_6_method_3_code 12 = .ok (.ireturn, 1) := by decide +kernel
def own_f_rm_holds_null  : Int32 := (1 : Int32)
theorem own_ef_rm_holds_null (m : MethodId) (x0 : Addr) : entryFrame m #[(.ref x0)] 1 = mkF m 0 #[.val (.ref x0)] [] := by first | (simp [entryFrame, mkF, argsToLocals, Value.category]; done) | rfl
set_option maxRecDepth 65536 in
set_option maxHeartbeats 40000000 in
theorem rm_holds_null (l : Launch) (Z : State) (a0 : Array Value) (hw : ∀ d ∈ tables_1, d.before a0 Z = true) (ws : List Jvm.Cond) (a1 : Addr) (r : Int32) (h0 : Heap) (n0 : Nat) (hn0 : n0 ≤ h0.size) (F : Fld Z h0 a1 "com/example/term_weight_evolver/termweightevolver/constraints/Verdict" "violation" "Lcom/example/term_weight_evolver/termweightevolver/constraints/Probe;" .null) (hr : own_f_rm_holds_null = r) :
    OwnMet l Z (⟨"com/example/term_weight_evolver/termweightevolver/constraints/Verdict", "holds", "()Z"⟩ : MethodName) prog_6_method_3_code 1 (some .boolean) ws ({ frames := 0, cells := 0, slots := 0, locals := 0 } : Room) #[(.ref a1)] h0 (OwnP (some (.int r)) h0 n0) := by
  refine own_body (plainFor_of_name own_pn2) ?_
  intro p e s m below meth c s₁ X0 hx hby hml hret hlk hown0 hnm hZ e0 hs0
  have hown : s.vm.findClass "com/example/term_weight_evolver/termweightevolver/constraints/Verdict" = some m.cls := hown0
  have N0 := Fr.nil n0
  refine own_entry (own_ef_rm_holds_null m a1) ?_
  show Go _ _ _ _ _ s₁ (mkF m 0 #[.val (.ref a1)] [])
  refine own_go (fun t k => XS.aloadN X0.here hx rfl (hb hby d_prog_6_method_3_0) rfl rfl k) ?_
  show Go _ _ _ _ _ s₁ (mkF m 1 #[.val (.ref a1)] [(.ref a1)])
  obtain ⟨T18, X18, e18, st18⟩ := getF X0 hx hZ hown (host := "") (Or.inl (hw _ (List.mem_of_getElem? (i := 19) rfl))) Via.refl e0 F (g := (mkF m 1 #[.val (.ref a1)] [(.ref a1)])) rfl rfl (hb hby d_prog_6_method_3_1)
  refine own_go (fun t k => st18 t k) ?_
  show Go _ _ _ _ _ T18 (mkF m 4 #[.val (.ref a1)] [.null])
  refine own_go (fun t k => XS.ifnonnullNo X18.here hx rfl (hb hby d_prog_6_method_3_4) rfl k) ?_
  show Go _ _ _ _ _ T18 (mkF m 7 #[.val (.ref a1)] [])
  refine own_go (fun t k => XS.iconst X18.here hx rfl (hb hby d_prog_6_method_3_7) k) ?_
  show Go _ _ _ _ _ T18 (mkF m 8 #[.val (.ref a1)] [(.int (1 : Int32))])
  refine own_go (fun t k => XS.goto X18.here hx rfl (pc0 := 8) (pc' := 12) rfl (hb hby d_prog_6_method_3_8) (by decide) (by decide) k) ?_
  show Go _ _ _ _ _ T18 (mkF m 12 #[.val (.ref a1)] [(.int (1 : Int32))])
  refine own_retN X18 hx (own_lvN X18 hlk (by decide) (by decide)) (t := .boolean) hret (by simp) (hb hby d_prog_6_method_3_12) ?_
  exact ⟨(by rw [← hr, own_f_rm_holds_null]; try rfl), N0, e18⟩
theorem d_prog_6_method_3_11 : Jvm.ClassFile.decode prog_6_method_3_code 11 = .ok (.iconst 0, 1) := by decide +kernel
def own_f_rm_holds_obj  : Int32 := (0 : Int32)
theorem own_ef_rm_holds_obj (m : MethodId) (x0 : Addr) : entryFrame m #[(.ref x0)] 1 = mkF m 0 #[.val (.ref x0)] [] := by first | (simp [entryFrame, mkF, argsToLocals, Value.category]; done) | rfl
set_option maxRecDepth 65536 in
set_option maxHeartbeats 40000000 in
theorem rm_holds_obj (l : Launch) (Z : State) (a0 : Array Value) (hw : ∀ d ∈ tables_1, d.before a0 Z = true) (ws : List Jvm.Cond) (a1 : Addr) (b1 : Addr) (r : Int32) (h0 : Heap) (n0 : Nat) (hn0 : n0 ≤ h0.size) (F : Fld Z h0 a1 "com/example/term_weight_evolver/termweightevolver/constraints/Verdict" "violation" "Lcom/example/term_weight_evolver/termweightevolver/constraints/Probe;" (.ref b1)) (hr : own_f_rm_holds_obj = r) :
    OwnMet l Z (⟨"com/example/term_weight_evolver/termweightevolver/constraints/Verdict", "holds", "()Z"⟩ : MethodName) prog_6_method_3_code 1 (some .boolean) ws ({ frames := 0, cells := 0, slots := 0, locals := 0 } : Room) #[(.ref a1)] h0 (OwnP (some (.int r)) h0 n0) := by
  refine own_body (plainFor_of_name own_pn2) ?_
  intro p e s m below meth c s₁ X0 hx hby hml hret hlk hown0 hnm hZ e0 hs0
  have hown : s.vm.findClass "com/example/term_weight_evolver/termweightevolver/constraints/Verdict" = some m.cls := hown0
  have N0 := Fr.nil n0
  refine own_entry (own_ef_rm_holds_obj m a1) ?_
  show Go _ _ _ _ _ s₁ (mkF m 0 #[.val (.ref a1)] [])
  refine own_go (fun t k => XS.aloadN X0.here hx rfl (hb hby d_prog_6_method_3_0) rfl rfl k) ?_
  show Go _ _ _ _ _ s₁ (mkF m 1 #[.val (.ref a1)] [(.ref a1)])
  obtain ⟨T20, X20, e20, st20⟩ := getF X0 hx hZ hown (host := "") (Or.inl (hw _ (List.mem_of_getElem? (i := 19) rfl))) Via.refl e0 F (g := (mkF m 1 #[.val (.ref a1)] [(.ref a1)])) rfl rfl (hb hby d_prog_6_method_3_1)
  refine own_go (fun t k => st20 t k) ?_
  show Go _ _ _ _ _ T20 (mkF m 4 #[.val (.ref a1)] [(.ref b1)])
  refine own_go (fun t k => XS.ifnonnullYes X20.here hx rfl (pc0 := 4) (pc' := 11) rfl (hb hby d_prog_6_method_3_4) rfl (by decide) (by decide) k) ?_
  show Go _ _ _ _ _ T20 (mkF m 11 #[.val (.ref a1)] [])
  refine own_go (fun t k => XS.iconst X20.here hx rfl (hb hby d_prog_6_method_3_11) k) ?_
  show Go _ _ _ _ _ T20 (mkF m 12 #[.val (.ref a1)] [(.int (0 : Int32))])
  refine own_retN X20 hx (own_lvN X20 hlk (by decide) (by decide)) (t := .boolean) hret (by simp) (hb hby d_prog_6_method_3_12) ?_
  exact ⟨(by rw [← hr, own_f_rm_holds_obj]; try rfl), N0, e20⟩
theorem d_prog_6_method_4_0 : Jvm.ClassFile.decode prog_6_method_4_code 0 = .ok (.aload_n 0, 1) := by decide +kernel
theorem d_prog_6_method_4_1 : Jvm.ClassFile.decode prog_6_method_4_code 1 = .ok (.getfield 13, 3) := by decide +kernel
theorem d_prog_6_method_4_4 : Jvm.ClassFile.decode prog_6_method_4_code 4 = .ok (.areturn, 1) := by decide +kernel
def own_f_rm_violation_null  : Value := (.null : Value)
theorem own_ef_rm_violation_null (m : MethodId) (x0 : Addr) : entryFrame m #[(.ref x0)] 1 = mkF m 0 #[.val (.ref x0)] [] := by first | (simp [entryFrame, mkF, argsToLocals, Value.category]; done) | rfl
set_option maxRecDepth 65536 in
set_option maxHeartbeats 40000000 in
theorem rm_violation_null (l : Launch) (Z : State) (a0 : Array Value) (hw : ∀ d ∈ tables_1, d.before a0 Z = true) (ws : List Jvm.Cond) (a1 : Addr) (r : Value) (h0 : Heap) (n0 : Nat) (hn0 : n0 ≤ h0.size) (F : Fld Z h0 a1 "com/example/term_weight_evolver/termweightevolver/constraints/Verdict" "violation" "Lcom/example/term_weight_evolver/termweightevolver/constraints/Probe;" .null) (hr : own_f_rm_violation_null = r) :
    OwnMet l Z (⟨"com/example/term_weight_evolver/termweightevolver/constraints/Verdict", "violation", "()Lcom/example/term_weight_evolver/termweightevolver/constraints/Probe;"⟩ : MethodName) prog_6_method_4_code 1 (some (.object "com/example/term_weight_evolver/termweightevolver/constraints/Probe")) ws ({ frames := 0, cells := 0, slots := 0, locals := 0 } : Room) #[(.ref a1)] h0 (OwnP (some r) h0 n0) := by
  refine own_body (plainFor_of_name own_pn2) ?_
  intro p e s m below meth c s₁ X0 hx hby hml hret hlk hown0 hnm hZ e0 hs0
  have hown : s.vm.findClass "com/example/term_weight_evolver/termweightevolver/constraints/Verdict" = some m.cls := hown0
  have N0 := Fr.nil n0
  refine own_entry (own_ef_rm_violation_null m a1) ?_
  show Go _ _ _ _ _ s₁ (mkF m 0 #[.val (.ref a1)] [])
  refine own_go (fun t k => XS.aloadN X0.here hx rfl (hb hby d_prog_6_method_4_0) rfl rfl k) ?_
  show Go _ _ _ _ _ s₁ (mkF m 1 #[.val (.ref a1)] [(.ref a1)])
  obtain ⟨T22, X22, e22, st22⟩ := getF X0 hx hZ hown (host := "") (Or.inl (hw _ (List.mem_of_getElem? (i := 19) rfl))) Via.refl e0 F (g := (mkF m 1 #[.val (.ref a1)] [(.ref a1)])) rfl rfl (hb hby d_prog_6_method_4_1)
  refine own_go (fun t k => st22 t k) ?_
  show Go _ _ _ _ _ T22 (mkF m 4 #[.val (.ref a1)] [.null])
  refine own_retA X22 hx (own_lvN X22 hlk (by decide) (by decide)) hret rfl rfl (hb hby d_prog_6_method_4_4) ?_
  exact ⟨(by rw [← hr, own_f_rm_violation_null]; try rfl), N0, e22⟩
def own_f_rm_violation_obj (b1 : Addr) : Value := (.ref b1 : Value)
theorem own_ef_rm_violation_obj (m : MethodId) (x0 : Addr) : entryFrame m #[(.ref x0)] 1 = mkF m 0 #[.val (.ref x0)] [] := by first | (simp [entryFrame, mkF, argsToLocals, Value.category]; done) | rfl
set_option maxRecDepth 65536 in
set_option maxHeartbeats 40000000 in
theorem rm_violation_obj (l : Launch) (Z : State) (a0 : Array Value) (hw : ∀ d ∈ tables_1, d.before a0 Z = true) (ws : List Jvm.Cond) (a1 : Addr) (b1 : Addr) (r : Value) (h0 : Heap) (n0 : Nat) (hn0 : n0 ≤ h0.size) (F : Fld Z h0 a1 "com/example/term_weight_evolver/termweightevolver/constraints/Verdict" "violation" "Lcom/example/term_weight_evolver/termweightevolver/constraints/Probe;" (.ref b1)) (hr : own_f_rm_violation_obj b1 = r) :
    OwnMet l Z (⟨"com/example/term_weight_evolver/termweightevolver/constraints/Verdict", "violation", "()Lcom/example/term_weight_evolver/termweightevolver/constraints/Probe;"⟩ : MethodName) prog_6_method_4_code 1 (some (.object "com/example/term_weight_evolver/termweightevolver/constraints/Probe")) ws ({ frames := 0, cells := 0, slots := 0, locals := 0 } : Room) #[(.ref a1)] h0 (OwnP (some r) h0 n0) := by
  refine own_body (plainFor_of_name own_pn2) ?_
  intro p e s m below meth c s₁ X0 hx hby hml hret hlk hown0 hnm hZ e0 hs0
  have hown : s.vm.findClass "com/example/term_weight_evolver/termweightevolver/constraints/Verdict" = some m.cls := hown0
  have N0 := Fr.nil n0
  refine own_entry (own_ef_rm_violation_obj m a1) ?_
  show Go _ _ _ _ _ s₁ (mkF m 0 #[.val (.ref a1)] [])
  refine own_go (fun t k => XS.aloadN X0.here hx rfl (hb hby d_prog_6_method_4_0) rfl rfl k) ?_
  show Go _ _ _ _ _ s₁ (mkF m 1 #[.val (.ref a1)] [(.ref a1)])
  obtain ⟨T24, X24, e24, st24⟩ := getF X0 hx hZ hown (host := "") (Or.inl (hw _ (List.mem_of_getElem? (i := 19) rfl))) Via.refl e0 F (g := (mkF m 1 #[.val (.ref a1)] [(.ref a1)])) rfl rfl (hb hby d_prog_6_method_4_1)
  refine own_go (fun t k => st24 t k) ?_
  show Go _ _ _ _ _ T24 (mkF m 4 #[.val (.ref a1)] [(.ref b1)])
  refine own_retA X24 hx (own_lvN X24 hlk (by decide) (by decide)) hret rfl rfl (hb hby d_prog_6_method_4_4) ?_
  exact ⟨(by rw [← hr, own_f_rm_violation_obj]; try rfl), N0, e24⟩
theorem d_prog_6_method_2_0 : Jvm.ClassFile.decode prog_6_method_2_code 0 = .ok (.aload_n 0, 1) := by decide +kernel
theorem d_prog_6_method_2_1 : Jvm.ClassFile.decode prog_6_method_2_code 1 = .ok (.getfield 7, 3) := by decide +kernel
theorem d_prog_6_method_2_4 : Jvm.ClassFile.decode prog_6_method_2_code 4 = .ok (.areturn, 1) := by decide +kernel
def own_f_rm_constraint_obj (b1 : Addr) : Value := (.ref b1 : Value)
theorem own_ef_rm_constraint_obj (m : MethodId) (x0 : Addr) : entryFrame m #[(.ref x0)] 1 = mkF m 0 #[.val (.ref x0)] [] := by first | (simp [entryFrame, mkF, argsToLocals, Value.category]; done) | rfl
set_option maxRecDepth 65536 in
set_option maxHeartbeats 40000000 in
theorem rm_constraint_obj (l : Launch) (Z : State) (a0 : Array Value) (hw : ∀ d ∈ tables_1, d.before a0 Z = true) (ws : List Jvm.Cond) (a1 : Addr) (b1 : Addr) (r : Value) (h0 : Heap) (n0 : Nat) (hn0 : n0 ≤ h0.size) (F : Fld Z h0 a1 "com/example/term_weight_evolver/termweightevolver/constraints/Verdict" "constraint" "Lcom/example/term_weight_evolver/termweightevolver/constraints/Constraint;" (.ref b1)) (hr : own_f_rm_constraint_obj b1 = r) :
    OwnMet l Z (⟨"com/example/term_weight_evolver/termweightevolver/constraints/Verdict", "constraint", "()Lcom/example/term_weight_evolver/termweightevolver/constraints/Constraint;"⟩ : MethodName) prog_6_method_2_code 1 (some (.object "com/example/term_weight_evolver/termweightevolver/constraints/Constraint")) ws ({ frames := 0, cells := 0, slots := 0, locals := 0 } : Room) #[(.ref a1)] h0 (OwnP (some r) h0 n0) := by
  refine own_body (plainFor_of_name own_pn2) ?_
  intro p e s m below meth c s₁ X0 hx hby hml hret hlk hown0 hnm hZ e0 hs0
  have hown : s.vm.findClass "com/example/term_weight_evolver/termweightevolver/constraints/Verdict" = some m.cls := hown0
  have N0 := Fr.nil n0
  refine own_entry (own_ef_rm_constraint_obj m a1) ?_
  show Go _ _ _ _ _ s₁ (mkF m 0 #[.val (.ref a1)] [])
  refine own_go (fun t k => XS.aloadN X0.here hx rfl (hb hby d_prog_6_method_2_0) rfl rfl k) ?_
  show Go _ _ _ _ _ s₁ (mkF m 1 #[.val (.ref a1)] [(.ref a1)])
  obtain ⟨T26, X26, e26, st26⟩ := getF X0 hx hZ hown (host := "") (Or.inl (hw _ (List.mem_of_getElem? (i := 17) rfl))) Via.refl e0 F (g := (mkF m 1 #[.val (.ref a1)] [(.ref a1)])) rfl rfl (hb hby d_prog_6_method_2_1)
  refine own_go (fun t k => st26 t k) ?_
  show Go _ _ _ _ _ T26 (mkF m 4 #[.val (.ref a1)] [(.ref b1)])
  refine own_retA X26 hx (own_lvN X26 hlk (by decide) (by decide)) hret rfl rfl (hb hby d_prog_6_method_2_4) ?_
  exact ⟨(by rw [← hr, own_f_rm_constraint_obj]; try rfl), N0, e26⟩
theorem own_pd0 : parseMethodDescriptor "(I)Lcom/example/term_weight_evolver/termweightevolver/constraints/Constraint;" = some ⟨[.int], some (.object "com/example/term_weight_evolver/termweightevolver/constraints/Constraint")⟩ := by decide +kernel
theorem own_pd1 : parseMethodDescriptor "(Lcom/example/term_weight_evolver/termweightevolver/constraints/Constraint;Lcom/example/term_weight_evolver/termweightevolver/constraints/Probe;)V" = some ⟨[(.object "com/example/term_weight_evolver/termweightevolver/constraints/Constraint"), (.object "com/example/term_weight_evolver/termweightevolver/constraints/Probe")], none⟩ := by decide +kernel
theorem own_pd2 : parseMethodDescriptor "()Z" = some ⟨[], some .boolean⟩ := by decide +kernel
theorem own_pd3 : parseMethodDescriptor "()Lcom/example/term_weight_evolver/termweightevolver/constraints/Probe;" = some ⟨[], some (.object "com/example/term_weight_evolver/termweightevolver/constraints/Probe")⟩ := by decide +kernel
theorem own_pd4 : parseMethodDescriptor "()Lcom/example/term_weight_evolver/termweightevolver/constraints/Constraint;" = some ⟨[], some (.object "com/example/term_weight_evolver/termweightevolver/constraints/Constraint")⟩ := by decide +kernel
theorem own_pd5 : parseMethodDescriptor "(IJII)V" = some ⟨[.int, .long, .int, .int], none⟩ := by decide +kernel
theorem own_ef_rm0 (m : MethodId) (x0 : Int32) (x1 : Int32) (x2 : Int32) (x3 : Int64) (x4 : Int32) (x5 : Int32) : entryFrame m #[(.int x0), (.int x1), (.int x2), (.long x3), (.int x4), (.int x5)] maxLocals = mkF m 0 #[.val (.int x0), .val (.int x1), .val (.int x2), .val (.long x3), .second, .val (.int x4), .val (.int x5), .unset, .unset, .unset, .unset, .unset, .unset] [] := by first | (simp [entryFrame, mkF, argsToLocals, Value.category, maxLocals]; done) | rfl
set_option maxRecDepth 65536 in
set_option maxHeartbeats 40000000 in
theorem rm0 (l : Launch) (Z : State) (a0 : Array Value) (hw : ∀ d ∈ tables_1, d.before a0 Z = true) (ws : List Jvm.Cond) (p1 : Int32) (p2 : Int32) (p3 : Int32) (p4 : Int64) (p5 : Int32) (p6 : Int32) (w_C3 : Addr) (w_C2 : Addr) (w_C4 : Addr) (w_C1 : Addr) (w_C1_1 : Addr) (h0 : Heap) (n0 : Nat) (hn0 : n0 ≤ h0.size) (S_C3 : Sta Z h0 "com/example/term_weight_evolver/termweightevolver/constraints/Constraint" "C3" "Lcom/example/term_weight_evolver/termweightevolver/constraints/Constraint;" (.ref w_C3)) (E_C3 : Exa Z h0 w_C3 "com/example/term_weight_evolver/termweightevolver/constraints/Constraint") (S_C2 : Sta Z h0 "com/example/term_weight_evolver/termweightevolver/constraints/Constraint" "C2" "Lcom/example/term_weight_evolver/termweightevolver/constraints/Constraint;" (.ref w_C2)) (E_C2 : Exa Z h0 w_C2 "com/example/term_weight_evolver/termweightevolver/constraints/Constraint") (S_C4 : Sta Z h0 "com/example/term_weight_evolver/termweightevolver/constraints/Constraint" "C4" "Lcom/example/term_weight_evolver/termweightevolver/constraints/Constraint;" (.ref w_C4)) (E_C4 : Exa Z h0 w_C4 "com/example/term_weight_evolver/termweightevolver/constraints/Constraint") (S_C1 : Sta Z h0 "com/example/term_weight_evolver/termweightevolver/constraints/Constraint" "C1" "Lcom/example/term_weight_evolver/termweightevolver/constraints/Constraint;" (.ref w_C1)) (E_C1 : Exa Z h0 w_C1 "com/example/term_weight_evolver/termweightevolver/constraints/Constraint") (S_C1_1 : Sta Z h0 "com/example/term_weight_evolver/termweightevolver/constraints/Constraint" "C1_1" "Lcom/example/term_weight_evolver/termweightevolver/constraints/Constraint;" (.ref w_C1_1)) (E_C1_1 : Exa Z h0 w_C1_1 "com/example/term_weight_evolver/termweightevolver/constraints/Constraint") :
    OwnMet l Z x code maxLocals ret ws room_1 #[(.int p1), (.int p2), (.int p3), (.long p4), (.int p5), (.int p6)] h0 (OwnR (some (.int 1)) n0) := by
  refine own_body (plainFor_of_name own_pn0) ?_
  intro p e s m below meth c s₁ X0 hx hby hml hret hlk hown0 hnm hZ e0 hs0
  have hown : s.vm.findClass "com/example/term_weight_evolver/termweightevolver/constraints/VerdictHoldsPinLaw" = some m.cls := hown0
  have N0 := Fr.nil n0
  refine own_entry (own_ef_rm0 m p1 p2 p3 p4 p5 p6) ?_
  obtain ⟨cc, hcc⟩ : ∃ z, own_pick p2 w_C1 w_C1_1 w_C2 w_C3 w_C4 = z := ⟨_, rfl⟩
  have E_cc : Exa Z h0 cc "com/example/term_weight_evolver/termweightevolver/constraints/Constraint" := hcc ▸ own_pick_of (fun z => Exa Z h0 z "com/example/term_weight_evolver/termweightevolver/constraints/Constraint") p2 _ _ _ _ _ E_C1 E_C1_1 E_C2 E_C3 E_C4
  show Go _ _ _ _ _ s₁ (mkF m 0 #[.val (.int p1), .val (.int p2), .val (.int p3), .val (.long p4), .second, .val (.int p5), .val (.int p6), .unset, .unset, .unset, .unset, .unset, .unset] [])
  refine own_go (fun t k => XS.iloadN X0.here hx rfl (hb hby at_0) rfl k) ?_
  show Go _ _ _ _ _ s₁ (mkF m 1 #[.val (.int p1), .val (.int p2), .val (.int p3), .val (.long p4), .second, .val (.int p5), .val (.int p6), .unset, .unset, .unset, .unset, .unset, .unset] [(.int p1)])
  refine own_go (fun t k => XS.iconst X0.here hx rfl (hb hby at_1) k) ?_
  show Go _ _ _ _ _ s₁ (mkF m 2 #[.val (.int p1), .val (.int p2), .val (.int p3), .val (.long p4), .second, .val (.int p5), .val (.int p6), .unset, .unset, .unset, .unset, .unset, .unset] [(.int (1 : Int32)), (.int p1)])
  refine own_go (fun t k => XS.iand X0.here hx rfl (hb hby at_2) rfl k) ?_
  have hi := own_and1 p1
  generalize (p1 &&& (1 : Int32)) = i at hi ⊢
  rcases hi with rfl | rfl
  · skip
    show Go _ _ _ _ _ s₁ (mkF m 3 #[.val (.int p1), .val (.int p2), .val (.int p3), .val (.long p4), .second, .val (.int p5), .val (.int p6), .unset, .unset, .unset, .unset, .unset, .unset] [(.int (0 : Int32))])
    refine own_go (fun t k => XS.ifYes X0.here hx rfl (pc0 := 3) (pc' := 10) rfl (hb hby at_3) rfl (by decide) (by decide) (by decide) k) ?_
    show Go _ _ _ _ _ s₁ (mkF m 10 #[.val (.int p1), .val (.int p2), .val (.int p3), .val (.long p4), .second, .val (.int p5), .val (.int p6), .unset, .unset, .unset, .unset, .unset, .unset] [])
    refine own_go (fun t k => XS.iconst X0.here hx rfl (hb hby at_10) k) ?_
    show Go _ _ _ _ _ s₁ (mkF m 11 #[.val (.int p1), .val (.int p2), .val (.int p3), .val (.long p4), .second, .val (.int p5), .val (.int p6), .unset, .unset, .unset, .unset, .unset, .unset] [(.int (0 : Int32))])
    refine own_go (fun t k => XS.istore X0.here hx rfl (hb hby at_11) rfl (l' := #[.val (.int p1), .val (.int p2), .val (.int p3), .val (.long p4), .second, .val (.int p5), .val (.int p6), .val (.int (0 : Int32)), .unset, .unset, .unset, .unset, .unset]) rfl k) ?_
    show Go _ _ _ _ _ s₁ (mkF m 13 #[.val (.int p1), .val (.int p2), .val (.int p3), .val (.long p4), .second, .val (.int p5), .val (.int p6), .val (.int (0 : Int32)), .unset, .unset, .unset, .unset, .unset] [])
    refine own_go (fun t k => XS.iloadN X0.here hx rfl (hb hby at_13) rfl k) ?_
    show Go _ _ _ _ _ s₁ (mkF m 14 #[.val (.int p1), .val (.int p2), .val (.int p3), .val (.long p4), .second, .val (.int p5), .val (.int p6), .val (.int (0 : Int32)), .unset, .unset, .unset, .unset, .unset] [(.int p2)])
    refine own_callS X0 hx hZ (y := (⟨"com/example/term_weight_evolver/termweightevolver/constraints/VerdictHoldsPinLaw", "pick", "(I)Lcom/example/term_weight_evolver/termweightevolver/constraints/Constraint;"⟩ : MethodName)) hown (hw _ (List.mem_of_getElem? (i := 0) rfl)) (hw _ (List.mem_of_getElem? (i := 1) rfl)) (hw _ (List.mem_of_getElem? (i := 2) rfl)) (hw _ (List.mem_of_getElem? (i := 3) rfl)) (by decide) (rm1 l Z a0 hw [] p2 w_C3 w_C2 w_C4 w_C1 w_C1_1 cc h0 n0 hn0 S_C3 S_C2 S_C4 S_C1 S_C1_1 hcc) e0 (by rw [hml]; rfl) (argsL := [(.int p2)]) (rest := []) rfl rfl (lenOf own_pd0 rfl) (W := 0) (Nat.le_of_eq rfl) (by decide) (by decide) (hb hby at_14) (by decide) (by decide) ?_
    intro v27 T27 L27 X27 q27
    obtain ⟨rfl, N27q, e27⟩ := q27
    have N27 := Fr.app N0 N27q
    show Go _ _ _ _ _ T27 (mkF m 17 #[.val (.int p1), .val (.int p2), .val (.int p3), .val (.long p4), .second, .val (.int p5), .val (.int p6), .val (.int (0 : Int32)), .unset, .unset, .unset, .unset, .unset] [(.ref cc)])
    refine own_go (fun t k => XS.astore X27.here hx rfl (hb hby at_17) rfl rfl (l' := #[.val (.int p1), .val (.int p2), .val (.int p3), .val (.long p4), .second, .val (.int p5), .val (.int p6), .val (.int (0 : Int32)), .val (.ref cc), .unset, .unset, .unset, .unset]) rfl k) ?_
    show Go _ _ _ _ _ T27 (mkF m 19 #[.val (.int p1), .val (.int p2), .val (.int p3), .val (.long p4), .second, .val (.int p5), .val (.int p6), .val (.int (0 : Int32)), .val (.ref cc), .unset, .unset, .unset, .unset] [])
    refine own_go (fun t k => XS.iload X27.here hx rfl (hb hby at_19) rfl k) ?_
    show Go _ _ _ _ _ T27 (mkF m 21 #[.val (.int p1), .val (.int p2), .val (.int p3), .val (.long p4), .second, .val (.int p5), .val (.int p6), .val (.int (0 : Int32)), .val (.ref cc), .unset, .unset, .unset, .unset] [(.int (0 : Int32))])
    refine own_go (fun t k => XS.ifYes X27.here hx rfl (pc0 := 21) (pc' := 40) rfl (hb hby at_21) rfl (by decide) (by decide) (by decide) k) ?_
    show Go _ _ _ _ _ T27 (mkF m 40 #[.val (.int p1), .val (.int p2), .val (.int p3), .val (.long p4), .second, .val (.int p5), .val (.int p6), .val (.int (0 : Int32)), .val (.ref cc), .unset, .unset, .unset, .unset] [])
    refine own_go (fun t k => XS.aconstNull X27.here hx rfl (hb hby at_40) k) ?_
    show Go _ _ _ _ _ T27 (mkF m 41 #[.val (.int p1), .val (.int p2), .val (.int p3), .val (.long p4), .second, .val (.int p5), .val (.int p6), .val (.int (0 : Int32)), .val (.ref cc), .unset, .unset, .unset, .unset] [.null])
    refine own_go (fun t k => XS.astore X27.here hx rfl (hb hby at_41) rfl rfl (l' := #[.val (.int p1), .val (.int p2), .val (.int p3), .val (.long p4), .second, .val (.int p5), .val (.int p6), .val (.int (0 : Int32)), .val (.ref cc), .val .null, .unset, .unset, .unset]) rfl k) ?_
    show Go _ _ _ _ _ T27 (mkF m 43 #[.val (.int p1), .val (.int p2), .val (.int p3), .val (.long p4), .second, .val (.int p5), .val (.int p6), .val (.int (0 : Int32)), .val (.ref cc), .val .null, .unset, .unset, .unset] [])
    obtain ⟨T28, h28, X28, e28, E28, A28, D28, -, st28⟩ := newO X27 hx hZ hown (hw _ (List.mem_of_getElem? (i := 8) rfl)) (hw _ (List.mem_of_getElem? (i := 9) rfl)) (hw _ (List.mem_of_getElem? (i := 10) rfl)) e27 (g := (mkF m 43 #[.val (.int p1), .val (.int p2), .val (.int p3), .val (.long p4), .second, .val (.int p5), .val (.int p6), .val (.int (0 : Int32)), .val (.ref cc), .val .null, .unset, .unset, .unset] [])) rfl (hb hby at_43) (by decide) (by decide)
    obtain ⟨b28, g28⟩ : ∃ z, z = h0.size := ⟨_, rfl⟩
    rw [← g28] at A28 D28 st28
    have ne_cc_b28 : ¬ cc = b28 := Nat.ne_of_lt (by rw [g28]; exact E_cc.lt)
    replace E_cc := E_cc.ext E28
    have g_b28 : n0 ≤ b28 := by rw [g28]; exact hn0
    have hn28 : n0 ≤ h28.size := Nat.le_trans hn0 E28.1
    have F_constraint_b28 : Fld Z h28 b28 "com/example/term_weight_evolver/termweightevolver/constraints/Verdict" "constraint" "Lcom/example/term_weight_evolver/termweightevolver/constraints/Constraint;" .null := D28 (Or.inr (hw _ (List.mem_of_getElem? (i := 18) rfl))) (ty := (.object "com/example/term_weight_evolver/termweightevolver/constraints/Constraint")) (by decide)
    have F_violation_b28 : Fld Z h28 b28 "com/example/term_weight_evolver/termweightevolver/constraints/Verdict" "violation" "Lcom/example/term_weight_evolver/termweightevolver/constraints/Probe;" .null := D28 (Or.inr (hw _ (List.mem_of_getElem? (i := 20) rfl))) (ty := (.object "com/example/term_weight_evolver/termweightevolver/constraints/Probe")) (by decide)
    refine own_go (fun t k => st28 t k) ?_
    show Go _ _ _ _ _ T28 (mkF m 46 #[.val (.int p1), .val (.int p2), .val (.int p3), .val (.long p4), .second, .val (.int p5), .val (.int p6), .val (.int (0 : Int32)), .val (.ref cc), .val .null, .unset, .unset, .unset] [(.ref b28)])
    refine own_go (fun t k => XS.dup X28.here hx rfl (hb hby at_46) rfl rfl k) ?_
    show Go _ _ _ _ _ T28 (mkF m 47 #[.val (.int p1), .val (.int p2), .val (.int p3), .val (.long p4), .second, .val (.int p5), .val (.int p6), .val (.int (0 : Int32)), .val (.ref cc), .val .null, .unset, .unset, .unset] [(.ref b28), (.ref b28)])
    refine own_go (fun t k => XS.aload X28.here hx rfl (hb hby at_47) rfl rfl k) ?_
    show Go _ _ _ _ _ T28 (mkF m 49 #[.val (.int p1), .val (.int p2), .val (.int p3), .val (.long p4), .second, .val (.int p5), .val (.int p6), .val (.int (0 : Int32)), .val (.ref cc), .val .null, .unset, .unset, .unset] [(.ref cc), (.ref b28), (.ref b28)])
    refine own_go (fun t k => XS.aload X28.here hx rfl (hb hby at_49) rfl rfl k) ?_
    show Go _ _ _ _ _ T28 (mkF m 51 #[.val (.int p1), .val (.int p2), .val (.int p3), .val (.long p4), .second, .val (.int p5), .val (.int p6), .val (.int (0 : Int32)), .val (.ref cc), .val .null, .unset, .unset, .unset] [.null, (.ref cc), (.ref b28), (.ref b28)])
    refine own_callI X28 hx hZ (y := (⟨"com/example/term_weight_evolver/termweightevolver/constraints/Verdict", "<init>", "(Lcom/example/term_weight_evolver/termweightevolver/constraints/Constraint;Lcom/example/term_weight_evolver/termweightevolver/constraints/Probe;)V"⟩ : MethodName)) rfl hown (hw _ (List.mem_of_getElem? (i := 11) rfl)) (hw _ (List.mem_of_getElem? (i := 12) rfl)) (hw _ (List.mem_of_getElem? (i := 13) rfl)) (hw _ (List.mem_of_getElem? (i := 10) rfl)) (by decide) (rm_vinit_null l Z a0 hw [] b28 cc h28 n0 hn28 A28 g_b28 F_constraint_b28 F_violation_b28 ) e28 (b := b28) (by rw [hml]; rfl) (argsL := [(.ref cc), .null]) (rest := [(.ref b28)]) rfl rfl (lenOf own_pd1 rfl) (W := 1) (Nat.le_of_eq rfl) (by decide) (by decide) (hb hby at_51) (by decide) (by decide) ?_
    intro v29 T29 L29 X29 q29
    obtain ⟨rfl, N29q, K29, Ex29, F29_constraint, F29_violation⟩ := q29
    have N29 := Fr.app N27 N29q
    replace E_cc := E_cc.keep K29
    replace A28 := A28.keep K29
    have hn29 : n0 ≤ T29.heap.size := Nat.le_trans hn28 K29.1
    show Go _ _ _ _ _ T29 (mkF m 54 #[.val (.int p1), .val (.int p2), .val (.int p3), .val (.long p4), .second, .val (.int p5), .val (.int p6), .val (.int (0 : Int32)), .val (.ref cc), .val .null, .unset, .unset, .unset] [(.ref b28)])
    refine own_go (fun t k => XS.astore X29.here hx rfl (hb hby at_54) rfl rfl (l' := #[.val (.int p1), .val (.int p2), .val (.int p3), .val (.long p4), .second, .val (.int p5), .val (.int p6), .val (.int (0 : Int32)), .val (.ref cc), .val .null, .val (.ref b28), .unset, .unset]) rfl k) ?_
    show Go _ _ _ _ _ T29 (mkF m 56 #[.val (.int p1), .val (.int p2), .val (.int p3), .val (.long p4), .second, .val (.int p5), .val (.int p6), .val (.int (0 : Int32)), .val (.ref cc), .val .null, .val (.ref b28), .unset, .unset] [])
    refine own_go (fun t k => XS.aload X29.here hx rfl (hb hby at_56) rfl rfl k) ?_
    show Go _ _ _ _ _ T29 (mkF m 58 #[.val (.int p1), .val (.int p2), .val (.int p3), .val (.long p4), .second, .val (.int p5), .val (.int p6), .val (.int (0 : Int32)), .val (.ref cc), .val .null, .val (.ref b28), .unset, .unset] [(.ref b28)])
    refine own_callV X29 hx hZ (y := (⟨"com/example/term_weight_evolver/termweightevolver/constraints/Verdict", "holds", "()Z"⟩ : MethodName)) hown (hw _ (List.mem_of_getElem? (i := 21) rfl)) (hw _ (List.mem_of_getElem? (i := 22) rfl)) (hw _ (List.mem_of_getElem? (i := 24) rfl)) (hw _ (List.mem_of_getElem? (i := 23) rfl)) (hw _ (List.mem_of_getElem? (i := 25) rfl)) (hw _ (List.mem_of_getElem? (i := 10) rfl)) (by decide) (rm_holds_null l Z a0 hw [] b28 (1 : Int32) T29.heap n0 hn29 F29_violation (by rw [own_f_rm_holds_null]; try first | rfl | decide)) rfl Ex29 (by rw [hml]; rfl) (argsL := []) (rest := []) rfl rfl (lenOf own_pd2 rfl) (W := 0) (Nat.le_of_eq rfl) (by decide) (by decide) (hb hby at_58) (by decide) (by decide) ?_
    intro v30 T30 L30 X30 q30
    obtain ⟨rfl, N30q, e30⟩ := q30
    have N30 := Fr.app N29 N30q
    show Go _ _ _ _ _ T30 (mkF m 61 #[.val (.int p1), .val (.int p2), .val (.int p3), .val (.long p4), .second, .val (.int p5), .val (.int p6), .val (.int (0 : Int32)), .val (.ref cc), .val .null, .val (.ref b28), .unset, .unset] [(.int (1 : Int32))])
    refine own_go (fun t k => XS.istore X30.here hx rfl (hb hby at_61) rfl (l' := #[.val (.int p1), .val (.int p2), .val (.int p3), .val (.long p4), .second, .val (.int p5), .val (.int p6), .val (.int (0 : Int32)), .val (.ref cc), .val .null, .val (.ref b28), .val (.int (1 : Int32)), .unset]) rfl k) ?_
    show Go _ _ _ _ _ T30 (mkF m 63 #[.val (.int p1), .val (.int p2), .val (.int p3), .val (.long p4), .second, .val (.int p5), .val (.int p6), .val (.int (0 : Int32)), .val (.ref cc), .val .null, .val (.ref b28), .val (.int (1 : Int32)), .unset] [])
    refine own_go (fun t k => XS.iload X30.here hx rfl (hb hby at_63) rfl k) ?_
    show Go _ _ _ _ _ T30 (mkF m 65 #[.val (.int p1), .val (.int p2), .val (.int p3), .val (.long p4), .second, .val (.int p5), .val (.int p6), .val (.int (0 : Int32)), .val (.ref cc), .val .null, .val (.ref b28), .val (.int (1 : Int32)), .unset] [(.int (0 : Int32))])
    refine own_go (fun t k => XS.ifNo X30.here hx rfl (hb hby at_65) rfl (by decide) k) ?_
    show Go _ _ _ _ _ T30 (mkF m 68 #[.val (.int p1), .val (.int p2), .val (.int p3), .val (.long p4), .second, .val (.int p5), .val (.int p6), .val (.int (0 : Int32)), .val (.ref cc), .val .null, .val (.ref b28), .val (.int (1 : Int32)), .unset] [])
    refine own_go (fun t k => XS.iconst X30.here hx rfl (hb hby at_68) k) ?_
    show Go _ _ _ _ _ T30 (mkF m 69 #[.val (.int p1), .val (.int p2), .val (.int p3), .val (.long p4), .second, .val (.int p5), .val (.int p6), .val (.int (0 : Int32)), .val (.ref cc), .val .null, .val (.ref b28), .val (.int (1 : Int32)), .unset] [(.int (1 : Int32))])
    refine own_go (fun t k => XS.goto X30.here hx rfl (pc0 := 69) (pc' := 73) rfl (hb hby at_69) (by decide) (by decide) k) ?_
    show Go _ _ _ _ _ T30 (mkF m 73 #[.val (.int p1), .val (.int p2), .val (.int p3), .val (.long p4), .second, .val (.int p5), .val (.int p6), .val (.int (0 : Int32)), .val (.ref cc), .val .null, .val (.ref b28), .val (.int (1 : Int32)), .unset] [(.int (1 : Int32))])
    refine own_go (fun t k => XS.istore X30.here hx rfl (hb hby at_73) rfl (l' := #[.val (.int p1), .val (.int p2), .val (.int p3), .val (.long p4), .second, .val (.int p5), .val (.int p6), .val (.int (0 : Int32)), .val (.ref cc), .val .null, .val (.ref b28), .val (.int (1 : Int32)), .val (.int (1 : Int32))]) rfl k) ?_
    show Go _ _ _ _ _ T30 (mkF m 75 #[.val (.int p1), .val (.int p2), .val (.int p3), .val (.long p4), .second, .val (.int p5), .val (.int p6), .val (.int (0 : Int32)), .val (.ref cc), .val .null, .val (.ref b28), .val (.int (1 : Int32)), .val (.int (1 : Int32))] [])
    refine own_go (fun t k => XS.iload X30.here hx rfl (hb hby at_75) rfl k) ?_
    show Go _ _ _ _ _ T30 (mkF m 77 #[.val (.int p1), .val (.int p2), .val (.int p3), .val (.long p4), .second, .val (.int p5), .val (.int p6), .val (.int (0 : Int32)), .val (.ref cc), .val .null, .val (.ref b28), .val (.int (1 : Int32)), .val (.int (1 : Int32))] [(.int (1 : Int32))])
    refine own_go (fun t k => XS.iload X30.here hx rfl (hb hby at_77) rfl k) ?_
    show Go _ _ _ _ _ T30 (mkF m 79 #[.val (.int p1), .val (.int p2), .val (.int p3), .val (.long p4), .second, .val (.int p5), .val (.int p6), .val (.int (0 : Int32)), .val (.ref cc), .val .null, .val (.ref b28), .val (.int (1 : Int32)), .val (.int (1 : Int32))] [(.int (1 : Int32)), (.int (1 : Int32))])
    refine own_go (fun t k => XS.icmpNo X30.here hx rfl (hb hby at_79) rfl (by decide) k) ?_
    show Go _ _ _ _ _ T30 (mkF m 82 #[.val (.int p1), .val (.int p2), .val (.int p3), .val (.long p4), .second, .val (.int p5), .val (.int p6), .val (.int (0 : Int32)), .val (.ref cc), .val .null, .val (.ref b28), .val (.int (1 : Int32)), .val (.int (1 : Int32))] [])
    refine own_go (fun t k => XS.aload X30.here hx rfl (hb hby at_82) rfl rfl k) ?_
    show Go _ _ _ _ _ T30 (mkF m 84 #[.val (.int p1), .val (.int p2), .val (.int p3), .val (.long p4), .second, .val (.int p5), .val (.int p6), .val (.int (0 : Int32)), .val (.ref cc), .val .null, .val (.ref b28), .val (.int (1 : Int32)), .val (.int (1 : Int32))] [(.ref b28)])
    refine own_callV X30 hx hZ (y := (⟨"com/example/term_weight_evolver/termweightevolver/constraints/Verdict", "holds", "()Z"⟩ : MethodName)) hown (hw _ (List.mem_of_getElem? (i := 21) rfl)) (hw _ (List.mem_of_getElem? (i := 22) rfl)) (hw _ (List.mem_of_getElem? (i := 24) rfl)) (hw _ (List.mem_of_getElem? (i := 23) rfl)) (hw _ (List.mem_of_getElem? (i := 25) rfl)) (hw _ (List.mem_of_getElem? (i := 10) rfl)) (by decide) (rm_holds_null l Z a0 hw [] b28 (1 : Int32) T29.heap n0 hn29 F29_violation (by rw [own_f_rm_holds_null]; try first | rfl | decide)) e30 Ex29 (by rw [hml]; rfl) (argsL := []) (rest := []) rfl rfl (lenOf own_pd2 rfl) (W := 0) (Nat.le_of_eq rfl) (by decide) (by decide) (hb hby at_84) (by decide) (by decide) ?_
    intro v31 T31 L31 X31 q31
    obtain ⟨rfl, N31q, e31⟩ := q31
    have N31 := Fr.app N30 N31q
    show Go _ _ _ _ _ T31 (mkF m 87 #[.val (.int p1), .val (.int p2), .val (.int p3), .val (.long p4), .second, .val (.int p5), .val (.int p6), .val (.int (0 : Int32)), .val (.ref cc), .val .null, .val (.ref b28), .val (.int (1 : Int32)), .val (.int (1 : Int32))] [(.int (1 : Int32))])
    refine own_go (fun t k => XS.iload X31.here hx rfl (hb hby at_87) rfl k) ?_
    show Go _ _ _ _ _ T31 (mkF m 89 #[.val (.int p1), .val (.int p2), .val (.int p3), .val (.long p4), .second, .val (.int p5), .val (.int p6), .val (.int (0 : Int32)), .val (.ref cc), .val .null, .val (.ref b28), .val (.int (1 : Int32)), .val (.int (1 : Int32))] [(.int (1 : Int32)), (.int (1 : Int32))])
    refine own_go (fun t k => XS.icmpNo X31.here hx rfl (hb hby at_89) rfl (by decide) k) ?_
    show Go _ _ _ _ _ T31 (mkF m 92 #[.val (.int p1), .val (.int p2), .val (.int p3), .val (.long p4), .second, .val (.int p5), .val (.int p6), .val (.int (0 : Int32)), .val (.ref cc), .val .null, .val (.ref b28), .val (.int (1 : Int32)), .val (.int (1 : Int32))] [])
    refine own_go (fun t k => XS.aload X31.here hx rfl (hb hby at_92) rfl rfl k) ?_
    show Go _ _ _ _ _ T31 (mkF m 94 #[.val (.int p1), .val (.int p2), .val (.int p3), .val (.long p4), .second, .val (.int p5), .val (.int p6), .val (.int (0 : Int32)), .val (.ref cc), .val .null, .val (.ref b28), .val (.int (1 : Int32)), .val (.int (1 : Int32))] [(.ref b28)])
    refine own_callV X31 hx hZ (y := (⟨"com/example/term_weight_evolver/termweightevolver/constraints/Verdict", "violation", "()Lcom/example/term_weight_evolver/termweightevolver/constraints/Probe;"⟩ : MethodName)) hown (hw _ (List.mem_of_getElem? (i := 26) rfl)) (hw _ (List.mem_of_getElem? (i := 27) rfl)) (hw _ (List.mem_of_getElem? (i := 29) rfl)) (hw _ (List.mem_of_getElem? (i := 28) rfl)) (hw _ (List.mem_of_getElem? (i := 30) rfl)) (hw _ (List.mem_of_getElem? (i := 10) rfl)) (by decide) (rm_violation_null l Z a0 hw [] b28 (.null) T29.heap n0 hn29 F29_violation (by rw [own_f_rm_violation_null]; try first | rfl | decide)) e31 Ex29 (by rw [hml]; rfl) (argsL := []) (rest := []) rfl rfl (lenOf own_pd3 rfl) (W := 0) (Nat.le_of_eq rfl) (by decide) (by decide) (hb hby at_94) (by decide) (by decide) ?_
    intro v32 T32 L32 X32 q32
    obtain ⟨rfl, N32q, e32⟩ := q32
    have N32 := Fr.app N31 N32q
    show Go _ _ _ _ _ T32 (mkF m 97 #[.val (.int p1), .val (.int p2), .val (.int p3), .val (.long p4), .second, .val (.int p5), .val (.int p6), .val (.int (0 : Int32)), .val (.ref cc), .val .null, .val (.ref b28), .val (.int (1 : Int32)), .val (.int (1 : Int32))] [.null])
    refine own_go (fun t k => XS.aload X32.here hx rfl (hb hby at_97) rfl rfl k) ?_
    show Go _ _ _ _ _ T32 (mkF m 99 #[.val (.int p1), .val (.int p2), .val (.int p3), .val (.long p4), .second, .val (.int p5), .val (.int p6), .val (.int (0 : Int32)), .val (.ref cc), .val .null, .val (.ref b28), .val (.int (1 : Int32)), .val (.int (1 : Int32))] [.null, .null])
    refine own_go (fun t k => Jvm.RoadKit.acmp (g := (mkF m 99 #[.val (.int p1), .val (.int p2), .val (.int p3), .val (.long p4), .second, .val (.int p5), .val (.int p6), .val (.int (0 : Int32)), .val (.ref cc), .val .null, .val (.ref b28), .val (.int (1 : Int32)), .val (.int (1 : Int32))] [.null, .null])) X32 hx rfl rfl rfl (pc0 := 99) (pc' := 102) (same := true) rfl (hb hby at_99) rfl (decide_eq_true rfl) (by decide) (by decide) k) ?_
    show Go _ _ _ _ _ T32 (mkF m 102 #[.val (.int p1), .val (.int p2), .val (.int p3), .val (.long p4), .second, .val (.int p5), .val (.int p6), .val (.int (0 : Int32)), .val (.ref cc), .val .null, .val (.ref b28), .val (.int (1 : Int32)), .val (.int (1 : Int32))] [])
    refine own_go (fun t k => XS.aload X32.here hx rfl (hb hby at_102) rfl rfl k) ?_
    show Go _ _ _ _ _ T32 (mkF m 104 #[.val (.int p1), .val (.int p2), .val (.int p3), .val (.long p4), .second, .val (.int p5), .val (.int p6), .val (.int (0 : Int32)), .val (.ref cc), .val .null, .val (.ref b28), .val (.int (1 : Int32)), .val (.int (1 : Int32))] [(.ref b28)])
    refine own_callV X32 hx hZ (y := (⟨"com/example/term_weight_evolver/termweightevolver/constraints/Verdict", "constraint", "()Lcom/example/term_weight_evolver/termweightevolver/constraints/Constraint;"⟩ : MethodName)) hown (hw _ (List.mem_of_getElem? (i := 31) rfl)) (hw _ (List.mem_of_getElem? (i := 32) rfl)) (hw _ (List.mem_of_getElem? (i := 34) rfl)) (hw _ (List.mem_of_getElem? (i := 33) rfl)) (hw _ (List.mem_of_getElem? (i := 35) rfl)) (hw _ (List.mem_of_getElem? (i := 10) rfl)) (by decide) (rm_constraint_obj l Z a0 hw [] b28 cc (.ref cc) T29.heap n0 hn29 F29_constraint (by rw [own_f_rm_constraint_obj]; try first | rfl | decide)) e32 Ex29 (by rw [hml]; rfl) (argsL := []) (rest := []) rfl rfl (lenOf own_pd4 rfl) (W := 0) (Nat.le_of_eq rfl) (by decide) (by decide) (hb hby at_104) (by decide) (by decide) ?_
    intro v33 T33 L33 X33 q33
    obtain ⟨rfl, N33q, e33⟩ := q33
    have N33 := Fr.app N32 N33q
    show Go _ _ _ _ _ T33 (mkF m 107 #[.val (.int p1), .val (.int p2), .val (.int p3), .val (.long p4), .second, .val (.int p5), .val (.int p6), .val (.int (0 : Int32)), .val (.ref cc), .val .null, .val (.ref b28), .val (.int (1 : Int32)), .val (.int (1 : Int32))] [(.ref cc)])
    refine own_go (fun t k => XS.aload X33.here hx rfl (hb hby at_107) rfl rfl k) ?_
    show Go _ _ _ _ _ T33 (mkF m 109 #[.val (.int p1), .val (.int p2), .val (.int p3), .val (.long p4), .second, .val (.int p5), .val (.int p6), .val (.int (0 : Int32)), .val (.ref cc), .val .null, .val (.ref b28), .val (.int (1 : Int32)), .val (.int (1 : Int32))] [(.ref cc), (.ref cc)])
    refine own_go (fun t k => Jvm.RoadKit.acmp (g := (mkF m 109 #[.val (.int p1), .val (.int p2), .val (.int p3), .val (.long p4), .second, .val (.int p5), .val (.int p6), .val (.int (0 : Int32)), .val (.ref cc), .val .null, .val (.ref b28), .val (.int (1 : Int32)), .val (.int (1 : Int32))] [(.ref cc), (.ref cc)])) X33 hx rfl rfl rfl (pc0 := 109) (pc' := 112) (same := true) rfl (hb hby at_109) rfl (decide_eq_true rfl) (by decide) (by decide) k) ?_
    show Go _ _ _ _ _ T33 (mkF m 112 #[.val (.int p1), .val (.int p2), .val (.int p3), .val (.long p4), .second, .val (.int p5), .val (.int p6), .val (.int (0 : Int32)), .val (.ref cc), .val .null, .val (.ref b28), .val (.int (1 : Int32)), .val (.int (1 : Int32))] [])
    refine own_go (fun t k => XS.iconst X33.here hx rfl (hb hby at_112) k) ?_
    show Go _ _ _ _ _ T33 (mkF m 113 #[.val (.int p1), .val (.int p2), .val (.int p3), .val (.long p4), .second, .val (.int p5), .val (.int p6), .val (.int (0 : Int32)), .val (.ref cc), .val .null, .val (.ref b28), .val (.int (1 : Int32)), .val (.int (1 : Int32))] [(.int (1 : Int32))])
    refine own_go (fun t k => XS.goto X33.here hx rfl (pc0 := 113) (pc' := 117) rfl (hb hby at_113) (by decide) (by decide) k) ?_
    show Go _ _ _ _ _ T33 (mkF m 117 #[.val (.int p1), .val (.int p2), .val (.int p3), .val (.long p4), .second, .val (.int p5), .val (.int p6), .val (.int (0 : Int32)), .val (.ref cc), .val .null, .val (.ref b28), .val (.int (1 : Int32)), .val (.int (1 : Int32))] [(.int (1 : Int32))])
    refine own_retN X33 hx (own_lvN X33 hlk (by decide) (by decide)) (t := .boolean) hret (by simp) (hb hby at_117) ?_
    exact ⟨rfl, N33⟩
  · skip
    show Go _ _ _ _ _ s₁ (mkF m 3 #[.val (.int p1), .val (.int p2), .val (.int p3), .val (.long p4), .second, .val (.int p5), .val (.int p6), .unset, .unset, .unset, .unset, .unset, .unset] [(.int (1 : Int32))])
    refine own_go (fun t k => XS.ifNo X0.here hx rfl (hb hby at_3) rfl (by decide) k) ?_
    show Go _ _ _ _ _ s₁ (mkF m 6 #[.val (.int p1), .val (.int p2), .val (.int p3), .val (.long p4), .second, .val (.int p5), .val (.int p6), .unset, .unset, .unset, .unset, .unset, .unset] [])
    refine own_go (fun t k => XS.iconst X0.here hx rfl (hb hby at_6) k) ?_
    show Go _ _ _ _ _ s₁ (mkF m 7 #[.val (.int p1), .val (.int p2), .val (.int p3), .val (.long p4), .second, .val (.int p5), .val (.int p6), .unset, .unset, .unset, .unset, .unset, .unset] [(.int (1 : Int32))])
    refine own_go (fun t k => XS.goto X0.here hx rfl (pc0 := 7) (pc' := 11) rfl (hb hby at_7) (by decide) (by decide) k) ?_
    show Go _ _ _ _ _ s₁ (mkF m 11 #[.val (.int p1), .val (.int p2), .val (.int p3), .val (.long p4), .second, .val (.int p5), .val (.int p6), .unset, .unset, .unset, .unset, .unset, .unset] [(.int (1 : Int32))])
    refine own_go (fun t k => XS.istore X0.here hx rfl (hb hby at_11) rfl (l' := #[.val (.int p1), .val (.int p2), .val (.int p3), .val (.long p4), .second, .val (.int p5), .val (.int p6), .val (.int (1 : Int32)), .unset, .unset, .unset, .unset, .unset]) rfl k) ?_
    show Go _ _ _ _ _ s₁ (mkF m 13 #[.val (.int p1), .val (.int p2), .val (.int p3), .val (.long p4), .second, .val (.int p5), .val (.int p6), .val (.int (1 : Int32)), .unset, .unset, .unset, .unset, .unset] [])
    refine own_go (fun t k => XS.iloadN X0.here hx rfl (hb hby at_13) rfl k) ?_
    show Go _ _ _ _ _ s₁ (mkF m 14 #[.val (.int p1), .val (.int p2), .val (.int p3), .val (.long p4), .second, .val (.int p5), .val (.int p6), .val (.int (1 : Int32)), .unset, .unset, .unset, .unset, .unset] [(.int p2)])
    refine own_callS X0 hx hZ (y := (⟨"com/example/term_weight_evolver/termweightevolver/constraints/VerdictHoldsPinLaw", "pick", "(I)Lcom/example/term_weight_evolver/termweightevolver/constraints/Constraint;"⟩ : MethodName)) hown (hw _ (List.mem_of_getElem? (i := 0) rfl)) (hw _ (List.mem_of_getElem? (i := 1) rfl)) (hw _ (List.mem_of_getElem? (i := 2) rfl)) (hw _ (List.mem_of_getElem? (i := 3) rfl)) (by decide) (rm1 l Z a0 hw [] p2 w_C3 w_C2 w_C4 w_C1 w_C1_1 cc h0 n0 hn0 S_C3 S_C2 S_C4 S_C1 S_C1_1 hcc) e0 (by rw [hml]; rfl) (argsL := [(.int p2)]) (rest := []) rfl rfl (lenOf own_pd0 rfl) (W := 0) (Nat.le_of_eq rfl) (by decide) (by decide) (hb hby at_14) (by decide) (by decide) ?_
    intro v34 T34 L34 X34 q34
    obtain ⟨rfl, N34q, e34⟩ := q34
    have N34 := Fr.app N0 N34q
    show Go _ _ _ _ _ T34 (mkF m 17 #[.val (.int p1), .val (.int p2), .val (.int p3), .val (.long p4), .second, .val (.int p5), .val (.int p6), .val (.int (1 : Int32)), .unset, .unset, .unset, .unset, .unset] [(.ref cc)])
    refine own_go (fun t k => XS.astore X34.here hx rfl (hb hby at_17) rfl rfl (l' := #[.val (.int p1), .val (.int p2), .val (.int p3), .val (.long p4), .second, .val (.int p5), .val (.int p6), .val (.int (1 : Int32)), .val (.ref cc), .unset, .unset, .unset, .unset]) rfl k) ?_
    show Go _ _ _ _ _ T34 (mkF m 19 #[.val (.int p1), .val (.int p2), .val (.int p3), .val (.long p4), .second, .val (.int p5), .val (.int p6), .val (.int (1 : Int32)), .val (.ref cc), .unset, .unset, .unset, .unset] [])
    refine own_go (fun t k => XS.iload X34.here hx rfl (hb hby at_19) rfl k) ?_
    show Go _ _ _ _ _ T34 (mkF m 21 #[.val (.int p1), .val (.int p2), .val (.int p3), .val (.long p4), .second, .val (.int p5), .val (.int p6), .val (.int (1 : Int32)), .val (.ref cc), .unset, .unset, .unset, .unset] [(.int (1 : Int32))])
    refine own_go (fun t k => XS.ifNo X34.here hx rfl (hb hby at_21) rfl (by decide) k) ?_
    show Go _ _ _ _ _ T34 (mkF m 24 #[.val (.int p1), .val (.int p2), .val (.int p3), .val (.long p4), .second, .val (.int p5), .val (.int p6), .val (.int (1 : Int32)), .val (.ref cc), .unset, .unset, .unset, .unset] [])
    obtain ⟨T35, h35, X35, e35, E35, A35, D35, -, st35⟩ := newO X34 hx hZ hown (hw _ (List.mem_of_getElem? (i := 38) rfl)) (hw _ (List.mem_of_getElem? (i := 39) rfl)) (hw _ (List.mem_of_getElem? (i := 40) rfl)) e34 (g := (mkF m 24 #[.val (.int p1), .val (.int p2), .val (.int p3), .val (.long p4), .second, .val (.int p5), .val (.int p6), .val (.int (1 : Int32)), .val (.ref cc), .unset, .unset, .unset, .unset] [])) rfl (hb hby at_24) (by decide) (by decide)
    obtain ⟨b35, g35⟩ : ∃ z, z = h0.size := ⟨_, rfl⟩
    rw [← g35] at A35 D35 st35
    have ne_cc_b35 : ¬ cc = b35 := Nat.ne_of_lt (by rw [g35]; exact E_cc.lt)
    replace E_cc := E_cc.ext E35
    have g_b35 : n0 ≤ b35 := by rw [g35]; exact hn0
    have hn35 : n0 ≤ h35.size := Nat.le_trans hn0 E35.1
    have F_df_b35 : Fld Z h35 b35 "com/example/term_weight_evolver/termweightevolver/constraints/Probe" "df" "I" (.int (0 : Int32)) := D35 (Or.inr (hw _ (List.mem_of_getElem? (i := 46) rfl))) (ty := .int) (by decide)
    have F_cf_b35 : Fld Z h35 b35 "com/example/term_weight_evolver/termweightevolver/constraints/Probe" "cf" "J" (.long (0 : Int64)) := D35 (Or.inr (hw _ (List.mem_of_getElem? (i := 48) rfl))) (ty := .long) (by decide)
    have F_tf_b35 : Fld Z h35 b35 "com/example/term_weight_evolver/termweightevolver/constraints/Probe" "tf" "I" (.int (0 : Int32)) := D35 (Or.inr (hw _ (List.mem_of_getElem? (i := 50) rfl))) (ty := .int) (by decide)
    have F_dl_b35 : Fld Z h35 b35 "com/example/term_weight_evolver/termweightevolver/constraints/Probe" "dl" "I" (.int (0 : Int32)) := D35 (Or.inr (hw _ (List.mem_of_getElem? (i := 52) rfl))) (ty := .int) (by decide)
    refine own_go (fun t k => st35 t k) ?_
    show Go _ _ _ _ _ T35 (mkF m 27 #[.val (.int p1), .val (.int p2), .val (.int p3), .val (.long p4), .second, .val (.int p5), .val (.int p6), .val (.int (1 : Int32)), .val (.ref cc), .unset, .unset, .unset, .unset] [(.ref b35)])
    refine own_go (fun t k => XS.dup X35.here hx rfl (hb hby at_27) rfl rfl k) ?_
    show Go _ _ _ _ _ T35 (mkF m 28 #[.val (.int p1), .val (.int p2), .val (.int p3), .val (.long p4), .second, .val (.int p5), .val (.int p6), .val (.int (1 : Int32)), .val (.ref cc), .unset, .unset, .unset, .unset] [(.ref b35), (.ref b35)])
    refine own_go (fun t k => XS.iloadN X35.here hx rfl (hb hby at_28) rfl k) ?_
    show Go _ _ _ _ _ T35 (mkF m 29 #[.val (.int p1), .val (.int p2), .val (.int p3), .val (.long p4), .second, .val (.int p5), .val (.int p6), .val (.int (1 : Int32)), .val (.ref cc), .unset, .unset, .unset, .unset] [(.int p3), (.ref b35), (.ref b35)])
    refine own_go (fun t k => XS.lloadN X35.here hx rfl (hb hby at_29) rfl k) ?_
    show Go _ _ _ _ _ T35 (mkF m 30 #[.val (.int p1), .val (.int p2), .val (.int p3), .val (.long p4), .second, .val (.int p5), .val (.int p6), .val (.int (1 : Int32)), .val (.ref cc), .unset, .unset, .unset, .unset] [(.long p4), (.int p3), (.ref b35), (.ref b35)])
    refine own_go (fun t k => XS.iload X35.here hx rfl (hb hby at_30) rfl k) ?_
    show Go _ _ _ _ _ T35 (mkF m 32 #[.val (.int p1), .val (.int p2), .val (.int p3), .val (.long p4), .second, .val (.int p5), .val (.int p6), .val (.int (1 : Int32)), .val (.ref cc), .unset, .unset, .unset, .unset] [(.int p5), (.long p4), (.int p3), (.ref b35), (.ref b35)])
    refine own_go (fun t k => XS.iload X35.here hx rfl (hb hby at_32) rfl k) ?_
    show Go _ _ _ _ _ T35 (mkF m 34 #[.val (.int p1), .val (.int p2), .val (.int p3), .val (.long p4), .second, .val (.int p5), .val (.int p6), .val (.int (1 : Int32)), .val (.ref cc), .unset, .unset, .unset, .unset] [(.int p6), (.int p5), (.long p4), (.int p3), (.ref b35), (.ref b35)])
    refine own_callI X35 hx hZ (y := (⟨"com/example/term_weight_evolver/termweightevolver/constraints/Probe", "<init>", "(IJII)V"⟩ : MethodName)) rfl hown (hw _ (List.mem_of_getElem? (i := 41) rfl)) (hw _ (List.mem_of_getElem? (i := 42) rfl)) (hw _ (List.mem_of_getElem? (i := 43) rfl)) (hw _ (List.mem_of_getElem? (i := 40) rfl)) (by decide) (rm7 l Z a0 hw [] b35 p3 p4 p5 p6 h35 n0 hn35 A35 g_b35 F_df_b35 F_cf_b35 F_tf_b35 F_dl_b35 ) e35 (b := b35) (by rw [hml]; rfl) (argsL := [(.int p3), (.long p4), (.int p5), (.int p6)]) (rest := [(.ref b35)]) rfl rfl (lenOf own_pd5 rfl) (W := 1) (Nat.le_of_eq rfl) (by decide) (by decide) (hb hby at_34) (by decide) (by decide) ?_
    intro v36 T36 L36 X36 q36
    obtain ⟨rfl, N36q, K36, Ex36, F36_df, F36_cf, F36_tf, F36_dl⟩ := q36
    have N36 := Fr.app N34 N36q
    replace E_cc := E_cc.keep K36
    replace A35 := A35.keep K36
    have hn36 : n0 ≤ T36.heap.size := Nat.le_trans hn35 K36.1
    show Go _ _ _ _ _ T36 (mkF m 37 #[.val (.int p1), .val (.int p2), .val (.int p3), .val (.long p4), .second, .val (.int p5), .val (.int p6), .val (.int (1 : Int32)), .val (.ref cc), .unset, .unset, .unset, .unset] [(.ref b35)])
    refine own_go (fun t k => XS.goto X36.here hx rfl (pc0 := 37) (pc' := 41) rfl (hb hby at_37) (by decide) (by decide) k) ?_
    show Go _ _ _ _ _ T36 (mkF m 41 #[.val (.int p1), .val (.int p2), .val (.int p3), .val (.long p4), .second, .val (.int p5), .val (.int p6), .val (.int (1 : Int32)), .val (.ref cc), .unset, .unset, .unset, .unset] [(.ref b35)])
    refine own_go (fun t k => XS.astore X36.here hx rfl (hb hby at_41) rfl rfl (l' := #[.val (.int p1), .val (.int p2), .val (.int p3), .val (.long p4), .second, .val (.int p5), .val (.int p6), .val (.int (1 : Int32)), .val (.ref cc), .val (.ref b35), .unset, .unset, .unset]) rfl k) ?_
    show Go _ _ _ _ _ T36 (mkF m 43 #[.val (.int p1), .val (.int p2), .val (.int p3), .val (.long p4), .second, .val (.int p5), .val (.int p6), .val (.int (1 : Int32)), .val (.ref cc), .val (.ref b35), .unset, .unset, .unset] [])
    obtain ⟨T37, h37, X37, e37, E37, A37, D37, -, st37⟩ := newO X36 hx hZ hown (hw _ (List.mem_of_getElem? (i := 8) rfl)) (hw _ (List.mem_of_getElem? (i := 9) rfl)) (hw _ (List.mem_of_getElem? (i := 10) rfl)) rfl (g := (mkF m 43 #[.val (.int p1), .val (.int p2), .val (.int p3), .val (.long p4), .second, .val (.int p5), .val (.int p6), .val (.int (1 : Int32)), .val (.ref cc), .val (.ref b35), .unset, .unset, .unset] [])) rfl (hb hby at_43) (by decide) (by decide)
    obtain ⟨b37, g37⟩ : ∃ z, z = T36.heap.size := ⟨_, rfl⟩
    rw [← g37] at A37 D37 st37
    have ne_cc_b37 : ¬ cc = b37 := Nat.ne_of_lt (by rw [g37]; exact E_cc.lt)
    have ne_b35_b37 : ¬ b35 = b37 := Nat.ne_of_lt (by rw [g37]; exact Ex36.lt)
    replace E_cc := E_cc.ext E37
    replace Ex36 := Ex36.ext E37
    replace F36_df := F36_df.ext E37
    replace F36_cf := F36_cf.ext E37
    replace F36_tf := F36_tf.ext E37
    replace F36_dl := F36_dl.ext E37
    have g_b37 : n0 ≤ b37 := by rw [g37]; exact hn36
    have hn37 : n0 ≤ h37.size := Nat.le_trans hn36 E37.1
    have F_constraint_b37 : Fld Z h37 b37 "com/example/term_weight_evolver/termweightevolver/constraints/Verdict" "constraint" "Lcom/example/term_weight_evolver/termweightevolver/constraints/Constraint;" .null := D37 (Or.inr (hw _ (List.mem_of_getElem? (i := 18) rfl))) (ty := (.object "com/example/term_weight_evolver/termweightevolver/constraints/Constraint")) (by decide)
    have F_violation_b37 : Fld Z h37 b37 "com/example/term_weight_evolver/termweightevolver/constraints/Verdict" "violation" "Lcom/example/term_weight_evolver/termweightevolver/constraints/Probe;" .null := D37 (Or.inr (hw _ (List.mem_of_getElem? (i := 20) rfl))) (ty := (.object "com/example/term_weight_evolver/termweightevolver/constraints/Probe")) (by decide)
    refine own_go (fun t k => st37 t k) ?_
    show Go _ _ _ _ _ T37 (mkF m 46 #[.val (.int p1), .val (.int p2), .val (.int p3), .val (.long p4), .second, .val (.int p5), .val (.int p6), .val (.int (1 : Int32)), .val (.ref cc), .val (.ref b35), .unset, .unset, .unset] [(.ref b37)])
    refine own_go (fun t k => XS.dup X37.here hx rfl (hb hby at_46) rfl rfl k) ?_
    show Go _ _ _ _ _ T37 (mkF m 47 #[.val (.int p1), .val (.int p2), .val (.int p3), .val (.long p4), .second, .val (.int p5), .val (.int p6), .val (.int (1 : Int32)), .val (.ref cc), .val (.ref b35), .unset, .unset, .unset] [(.ref b37), (.ref b37)])
    refine own_go (fun t k => XS.aload X37.here hx rfl (hb hby at_47) rfl rfl k) ?_
    show Go _ _ _ _ _ T37 (mkF m 49 #[.val (.int p1), .val (.int p2), .val (.int p3), .val (.long p4), .second, .val (.int p5), .val (.int p6), .val (.int (1 : Int32)), .val (.ref cc), .val (.ref b35), .unset, .unset, .unset] [(.ref cc), (.ref b37), (.ref b37)])
    refine own_go (fun t k => XS.aload X37.here hx rfl (hb hby at_49) rfl rfl k) ?_
    show Go _ _ _ _ _ T37 (mkF m 51 #[.val (.int p1), .val (.int p2), .val (.int p3), .val (.long p4), .second, .val (.int p5), .val (.int p6), .val (.int (1 : Int32)), .val (.ref cc), .val (.ref b35), .unset, .unset, .unset] [(.ref b35), (.ref cc), (.ref b37), (.ref b37)])
    refine own_callI X37 hx hZ (y := (⟨"com/example/term_weight_evolver/termweightevolver/constraints/Verdict", "<init>", "(Lcom/example/term_weight_evolver/termweightevolver/constraints/Constraint;Lcom/example/term_weight_evolver/termweightevolver/constraints/Probe;)V"⟩ : MethodName)) rfl hown (hw _ (List.mem_of_getElem? (i := 11) rfl)) (hw _ (List.mem_of_getElem? (i := 12) rfl)) (hw _ (List.mem_of_getElem? (i := 13) rfl)) (hw _ (List.mem_of_getElem? (i := 10) rfl)) (by decide) (rm_vinit_obj l Z a0 hw [] b37 cc b35 h37 n0 hn37 A37 g_b37 F_constraint_b37 F_violation_b37 ) e37 (b := b37) (by rw [hml]; rfl) (argsL := [(.ref cc), (.ref b35)]) (rest := [(.ref b37)]) rfl rfl (lenOf own_pd1 rfl) (W := 1) (Nat.le_of_eq rfl) (by decide) (by decide) (hb hby at_51) (by decide) (by decide) ?_
    intro v38 T38 L38 X38 q38
    obtain ⟨rfl, N38q, K38, Ex38, F38_constraint, F38_violation⟩ := q38
    have N38 := Fr.app N36 N38q
    replace F36_df := F36_df.keep K38 (ninS ne_b35_b37 nin0)
    replace F36_cf := F36_cf.keep K38 (ninS ne_b35_b37 nin0)
    replace F36_tf := F36_tf.keep K38 (ninS ne_b35_b37 nin0)
    replace F36_dl := F36_dl.keep K38 (ninS ne_b35_b37 nin0)
    replace E_cc := E_cc.keep K38
    replace Ex36 := Ex36.keep K38
    replace A37 := A37.keep K38
    have hn38 : n0 ≤ T38.heap.size := Nat.le_trans hn37 K38.1
    show Go _ _ _ _ _ T38 (mkF m 54 #[.val (.int p1), .val (.int p2), .val (.int p3), .val (.long p4), .second, .val (.int p5), .val (.int p6), .val (.int (1 : Int32)), .val (.ref cc), .val (.ref b35), .unset, .unset, .unset] [(.ref b37)])
    refine own_go (fun t k => XS.astore X38.here hx rfl (hb hby at_54) rfl rfl (l' := #[.val (.int p1), .val (.int p2), .val (.int p3), .val (.long p4), .second, .val (.int p5), .val (.int p6), .val (.int (1 : Int32)), .val (.ref cc), .val (.ref b35), .val (.ref b37), .unset, .unset]) rfl k) ?_
    show Go _ _ _ _ _ T38 (mkF m 56 #[.val (.int p1), .val (.int p2), .val (.int p3), .val (.long p4), .second, .val (.int p5), .val (.int p6), .val (.int (1 : Int32)), .val (.ref cc), .val (.ref b35), .val (.ref b37), .unset, .unset] [])
    refine own_go (fun t k => XS.aload X38.here hx rfl (hb hby at_56) rfl rfl k) ?_
    show Go _ _ _ _ _ T38 (mkF m 58 #[.val (.int p1), .val (.int p2), .val (.int p3), .val (.long p4), .second, .val (.int p5), .val (.int p6), .val (.int (1 : Int32)), .val (.ref cc), .val (.ref b35), .val (.ref b37), .unset, .unset] [(.ref b37)])
    refine own_callV X38 hx hZ (y := (⟨"com/example/term_weight_evolver/termweightevolver/constraints/Verdict", "holds", "()Z"⟩ : MethodName)) hown (hw _ (List.mem_of_getElem? (i := 21) rfl)) (hw _ (List.mem_of_getElem? (i := 22) rfl)) (hw _ (List.mem_of_getElem? (i := 24) rfl)) (hw _ (List.mem_of_getElem? (i := 23) rfl)) (hw _ (List.mem_of_getElem? (i := 25) rfl)) (hw _ (List.mem_of_getElem? (i := 10) rfl)) (by decide) (rm_holds_obj l Z a0 hw [] b37 b35 (0 : Int32) T38.heap n0 hn38 F38_violation (by rw [own_f_rm_holds_obj]; try first | rfl | decide)) rfl Ex38 (by rw [hml]; rfl) (argsL := []) (rest := []) rfl rfl (lenOf own_pd2 rfl) (W := 0) (Nat.le_of_eq rfl) (by decide) (by decide) (hb hby at_58) (by decide) (by decide) ?_
    intro v39 T39 L39 X39 q39
    obtain ⟨rfl, N39q, e39⟩ := q39
    have N39 := Fr.app N38 N39q
    show Go _ _ _ _ _ T39 (mkF m 61 #[.val (.int p1), .val (.int p2), .val (.int p3), .val (.long p4), .second, .val (.int p5), .val (.int p6), .val (.int (1 : Int32)), .val (.ref cc), .val (.ref b35), .val (.ref b37), .unset, .unset] [(.int (0 : Int32))])
    refine own_go (fun t k => XS.istore X39.here hx rfl (hb hby at_61) rfl (l' := #[.val (.int p1), .val (.int p2), .val (.int p3), .val (.long p4), .second, .val (.int p5), .val (.int p6), .val (.int (1 : Int32)), .val (.ref cc), .val (.ref b35), .val (.ref b37), .val (.int (0 : Int32)), .unset]) rfl k) ?_
    show Go _ _ _ _ _ T39 (mkF m 63 #[.val (.int p1), .val (.int p2), .val (.int p3), .val (.long p4), .second, .val (.int p5), .val (.int p6), .val (.int (1 : Int32)), .val (.ref cc), .val (.ref b35), .val (.ref b37), .val (.int (0 : Int32)), .unset] [])
    refine own_go (fun t k => XS.iload X39.here hx rfl (hb hby at_63) rfl k) ?_
    show Go _ _ _ _ _ T39 (mkF m 65 #[.val (.int p1), .val (.int p2), .val (.int p3), .val (.long p4), .second, .val (.int p5), .val (.int p6), .val (.int (1 : Int32)), .val (.ref cc), .val (.ref b35), .val (.ref b37), .val (.int (0 : Int32)), .unset] [(.int (1 : Int32))])
    refine own_go (fun t k => XS.ifYes X39.here hx rfl (pc0 := 65) (pc' := 72) rfl (hb hby at_65) rfl (by decide) (by decide) (by decide) k) ?_
    show Go _ _ _ _ _ T39 (mkF m 72 #[.val (.int p1), .val (.int p2), .val (.int p3), .val (.long p4), .second, .val (.int p5), .val (.int p6), .val (.int (1 : Int32)), .val (.ref cc), .val (.ref b35), .val (.ref b37), .val (.int (0 : Int32)), .unset] [])
    refine own_go (fun t k => XS.iconst X39.here hx rfl (hb hby at_72) k) ?_
    show Go _ _ _ _ _ T39 (mkF m 73 #[.val (.int p1), .val (.int p2), .val (.int p3), .val (.long p4), .second, .val (.int p5), .val (.int p6), .val (.int (1 : Int32)), .val (.ref cc), .val (.ref b35), .val (.ref b37), .val (.int (0 : Int32)), .unset] [(.int (0 : Int32))])
    refine own_go (fun t k => XS.istore X39.here hx rfl (hb hby at_73) rfl (l' := #[.val (.int p1), .val (.int p2), .val (.int p3), .val (.long p4), .second, .val (.int p5), .val (.int p6), .val (.int (1 : Int32)), .val (.ref cc), .val (.ref b35), .val (.ref b37), .val (.int (0 : Int32)), .val (.int (0 : Int32))]) rfl k) ?_
    show Go _ _ _ _ _ T39 (mkF m 75 #[.val (.int p1), .val (.int p2), .val (.int p3), .val (.long p4), .second, .val (.int p5), .val (.int p6), .val (.int (1 : Int32)), .val (.ref cc), .val (.ref b35), .val (.ref b37), .val (.int (0 : Int32)), .val (.int (0 : Int32))] [])
    refine own_go (fun t k => XS.iload X39.here hx rfl (hb hby at_75) rfl k) ?_
    show Go _ _ _ _ _ T39 (mkF m 77 #[.val (.int p1), .val (.int p2), .val (.int p3), .val (.long p4), .second, .val (.int p5), .val (.int p6), .val (.int (1 : Int32)), .val (.ref cc), .val (.ref b35), .val (.ref b37), .val (.int (0 : Int32)), .val (.int (0 : Int32))] [(.int (0 : Int32))])
    refine own_go (fun t k => XS.iload X39.here hx rfl (hb hby at_77) rfl k) ?_
    show Go _ _ _ _ _ T39 (mkF m 79 #[.val (.int p1), .val (.int p2), .val (.int p3), .val (.long p4), .second, .val (.int p5), .val (.int p6), .val (.int (1 : Int32)), .val (.ref cc), .val (.ref b35), .val (.ref b37), .val (.int (0 : Int32)), .val (.int (0 : Int32))] [(.int (0 : Int32)), (.int (0 : Int32))])
    refine own_go (fun t k => XS.icmpNo X39.here hx rfl (hb hby at_79) rfl (by decide) k) ?_
    show Go _ _ _ _ _ T39 (mkF m 82 #[.val (.int p1), .val (.int p2), .val (.int p3), .val (.long p4), .second, .val (.int p5), .val (.int p6), .val (.int (1 : Int32)), .val (.ref cc), .val (.ref b35), .val (.ref b37), .val (.int (0 : Int32)), .val (.int (0 : Int32))] [])
    refine own_go (fun t k => XS.aload X39.here hx rfl (hb hby at_82) rfl rfl k) ?_
    show Go _ _ _ _ _ T39 (mkF m 84 #[.val (.int p1), .val (.int p2), .val (.int p3), .val (.long p4), .second, .val (.int p5), .val (.int p6), .val (.int (1 : Int32)), .val (.ref cc), .val (.ref b35), .val (.ref b37), .val (.int (0 : Int32)), .val (.int (0 : Int32))] [(.ref b37)])
    refine own_callV X39 hx hZ (y := (⟨"com/example/term_weight_evolver/termweightevolver/constraints/Verdict", "holds", "()Z"⟩ : MethodName)) hown (hw _ (List.mem_of_getElem? (i := 21) rfl)) (hw _ (List.mem_of_getElem? (i := 22) rfl)) (hw _ (List.mem_of_getElem? (i := 24) rfl)) (hw _ (List.mem_of_getElem? (i := 23) rfl)) (hw _ (List.mem_of_getElem? (i := 25) rfl)) (hw _ (List.mem_of_getElem? (i := 10) rfl)) (by decide) (rm_holds_obj l Z a0 hw [] b37 b35 (0 : Int32) T38.heap n0 hn38 F38_violation (by rw [own_f_rm_holds_obj]; try first | rfl | decide)) e39 Ex38 (by rw [hml]; rfl) (argsL := []) (rest := []) rfl rfl (lenOf own_pd2 rfl) (W := 0) (Nat.le_of_eq rfl) (by decide) (by decide) (hb hby at_84) (by decide) (by decide) ?_
    intro v40 T40 L40 X40 q40
    obtain ⟨rfl, N40q, e40⟩ := q40
    have N40 := Fr.app N39 N40q
    show Go _ _ _ _ _ T40 (mkF m 87 #[.val (.int p1), .val (.int p2), .val (.int p3), .val (.long p4), .second, .val (.int p5), .val (.int p6), .val (.int (1 : Int32)), .val (.ref cc), .val (.ref b35), .val (.ref b37), .val (.int (0 : Int32)), .val (.int (0 : Int32))] [(.int (0 : Int32))])
    refine own_go (fun t k => XS.iload X40.here hx rfl (hb hby at_87) rfl k) ?_
    show Go _ _ _ _ _ T40 (mkF m 89 #[.val (.int p1), .val (.int p2), .val (.int p3), .val (.long p4), .second, .val (.int p5), .val (.int p6), .val (.int (1 : Int32)), .val (.ref cc), .val (.ref b35), .val (.ref b37), .val (.int (0 : Int32)), .val (.int (0 : Int32))] [(.int (0 : Int32)), (.int (0 : Int32))])
    refine own_go (fun t k => XS.icmpNo X40.here hx rfl (hb hby at_89) rfl (by decide) k) ?_
    show Go _ _ _ _ _ T40 (mkF m 92 #[.val (.int p1), .val (.int p2), .val (.int p3), .val (.long p4), .second, .val (.int p5), .val (.int p6), .val (.int (1 : Int32)), .val (.ref cc), .val (.ref b35), .val (.ref b37), .val (.int (0 : Int32)), .val (.int (0 : Int32))] [])
    refine own_go (fun t k => XS.aload X40.here hx rfl (hb hby at_92) rfl rfl k) ?_
    show Go _ _ _ _ _ T40 (mkF m 94 #[.val (.int p1), .val (.int p2), .val (.int p3), .val (.long p4), .second, .val (.int p5), .val (.int p6), .val (.int (1 : Int32)), .val (.ref cc), .val (.ref b35), .val (.ref b37), .val (.int (0 : Int32)), .val (.int (0 : Int32))] [(.ref b37)])
    refine own_callV X40 hx hZ (y := (⟨"com/example/term_weight_evolver/termweightevolver/constraints/Verdict", "violation", "()Lcom/example/term_weight_evolver/termweightevolver/constraints/Probe;"⟩ : MethodName)) hown (hw _ (List.mem_of_getElem? (i := 26) rfl)) (hw _ (List.mem_of_getElem? (i := 27) rfl)) (hw _ (List.mem_of_getElem? (i := 29) rfl)) (hw _ (List.mem_of_getElem? (i := 28) rfl)) (hw _ (List.mem_of_getElem? (i := 30) rfl)) (hw _ (List.mem_of_getElem? (i := 10) rfl)) (by decide) (rm_violation_obj l Z a0 hw [] b37 b35 (.ref b35) T38.heap n0 hn38 F38_violation (by rw [own_f_rm_violation_obj]; try first | rfl | decide)) e40 Ex38 (by rw [hml]; rfl) (argsL := []) (rest := []) rfl rfl (lenOf own_pd3 rfl) (W := 0) (Nat.le_of_eq rfl) (by decide) (by decide) (hb hby at_94) (by decide) (by decide) ?_
    intro v41 T41 L41 X41 q41
    obtain ⟨rfl, N41q, e41⟩ := q41
    have N41 := Fr.app N40 N41q
    show Go _ _ _ _ _ T41 (mkF m 97 #[.val (.int p1), .val (.int p2), .val (.int p3), .val (.long p4), .second, .val (.int p5), .val (.int p6), .val (.int (1 : Int32)), .val (.ref cc), .val (.ref b35), .val (.ref b37), .val (.int (0 : Int32)), .val (.int (0 : Int32))] [(.ref b35)])
    refine own_go (fun t k => XS.aload X41.here hx rfl (hb hby at_97) rfl rfl k) ?_
    show Go _ _ _ _ _ T41 (mkF m 99 #[.val (.int p1), .val (.int p2), .val (.int p3), .val (.long p4), .second, .val (.int p5), .val (.int p6), .val (.int (1 : Int32)), .val (.ref cc), .val (.ref b35), .val (.ref b37), .val (.int (0 : Int32)), .val (.int (0 : Int32))] [(.ref b35), (.ref b35)])
    refine own_go (fun t k => Jvm.RoadKit.acmp (g := (mkF m 99 #[.val (.int p1), .val (.int p2), .val (.int p3), .val (.long p4), .second, .val (.int p5), .val (.int p6), .val (.int (1 : Int32)), .val (.ref cc), .val (.ref b35), .val (.ref b37), .val (.int (0 : Int32)), .val (.int (0 : Int32))] [(.ref b35), (.ref b35)])) X41 hx rfl rfl rfl (pc0 := 99) (pc' := 102) (same := true) rfl (hb hby at_99) rfl (decide_eq_true rfl) (by decide) (by decide) k) ?_
    show Go _ _ _ _ _ T41 (mkF m 102 #[.val (.int p1), .val (.int p2), .val (.int p3), .val (.long p4), .second, .val (.int p5), .val (.int p6), .val (.int (1 : Int32)), .val (.ref cc), .val (.ref b35), .val (.ref b37), .val (.int (0 : Int32)), .val (.int (0 : Int32))] [])
    refine own_go (fun t k => XS.aload X41.here hx rfl (hb hby at_102) rfl rfl k) ?_
    show Go _ _ _ _ _ T41 (mkF m 104 #[.val (.int p1), .val (.int p2), .val (.int p3), .val (.long p4), .second, .val (.int p5), .val (.int p6), .val (.int (1 : Int32)), .val (.ref cc), .val (.ref b35), .val (.ref b37), .val (.int (0 : Int32)), .val (.int (0 : Int32))] [(.ref b37)])
    refine own_callV X41 hx hZ (y := (⟨"com/example/term_weight_evolver/termweightevolver/constraints/Verdict", "constraint", "()Lcom/example/term_weight_evolver/termweightevolver/constraints/Constraint;"⟩ : MethodName)) hown (hw _ (List.mem_of_getElem? (i := 31) rfl)) (hw _ (List.mem_of_getElem? (i := 32) rfl)) (hw _ (List.mem_of_getElem? (i := 34) rfl)) (hw _ (List.mem_of_getElem? (i := 33) rfl)) (hw _ (List.mem_of_getElem? (i := 35) rfl)) (hw _ (List.mem_of_getElem? (i := 10) rfl)) (by decide) (rm_constraint_obj l Z a0 hw [] b37 cc (.ref cc) T38.heap n0 hn38 F38_constraint (by rw [own_f_rm_constraint_obj]; try first | rfl | decide)) e41 Ex38 (by rw [hml]; rfl) (argsL := []) (rest := []) rfl rfl (lenOf own_pd4 rfl) (W := 0) (Nat.le_of_eq rfl) (by decide) (by decide) (hb hby at_104) (by decide) (by decide) ?_
    intro v42 T42 L42 X42 q42
    obtain ⟨rfl, N42q, e42⟩ := q42
    have N42 := Fr.app N41 N42q
    show Go _ _ _ _ _ T42 (mkF m 107 #[.val (.int p1), .val (.int p2), .val (.int p3), .val (.long p4), .second, .val (.int p5), .val (.int p6), .val (.int (1 : Int32)), .val (.ref cc), .val (.ref b35), .val (.ref b37), .val (.int (0 : Int32)), .val (.int (0 : Int32))] [(.ref cc)])
    refine own_go (fun t k => XS.aload X42.here hx rfl (hb hby at_107) rfl rfl k) ?_
    show Go _ _ _ _ _ T42 (mkF m 109 #[.val (.int p1), .val (.int p2), .val (.int p3), .val (.long p4), .second, .val (.int p5), .val (.int p6), .val (.int (1 : Int32)), .val (.ref cc), .val (.ref b35), .val (.ref b37), .val (.int (0 : Int32)), .val (.int (0 : Int32))] [(.ref cc), (.ref cc)])
    refine own_go (fun t k => Jvm.RoadKit.acmp (g := (mkF m 109 #[.val (.int p1), .val (.int p2), .val (.int p3), .val (.long p4), .second, .val (.int p5), .val (.int p6), .val (.int (1 : Int32)), .val (.ref cc), .val (.ref b35), .val (.ref b37), .val (.int (0 : Int32)), .val (.int (0 : Int32))] [(.ref cc), (.ref cc)])) X42 hx rfl rfl rfl (pc0 := 109) (pc' := 112) (same := true) rfl (hb hby at_109) rfl (decide_eq_true rfl) (by decide) (by decide) k) ?_
    show Go _ _ _ _ _ T42 (mkF m 112 #[.val (.int p1), .val (.int p2), .val (.int p3), .val (.long p4), .second, .val (.int p5), .val (.int p6), .val (.int (1 : Int32)), .val (.ref cc), .val (.ref b35), .val (.ref b37), .val (.int (0 : Int32)), .val (.int (0 : Int32))] [])
    refine own_go (fun t k => XS.iconst X42.here hx rfl (hb hby at_112) k) ?_
    show Go _ _ _ _ _ T42 (mkF m 113 #[.val (.int p1), .val (.int p2), .val (.int p3), .val (.long p4), .second, .val (.int p5), .val (.int p6), .val (.int (1 : Int32)), .val (.ref cc), .val (.ref b35), .val (.ref b37), .val (.int (0 : Int32)), .val (.int (0 : Int32))] [(.int (1 : Int32))])
    refine own_go (fun t k => XS.goto X42.here hx rfl (pc0 := 113) (pc' := 117) rfl (hb hby at_113) (by decide) (by decide) k) ?_
    show Go _ _ _ _ _ T42 (mkF m 117 #[.val (.int p1), .val (.int p2), .val (.int p3), .val (.long p4), .second, .val (.int p5), .val (.int p6), .val (.int (1 : Int32)), .val (.ref cc), .val (.ref b35), .val (.ref b37), .val (.int (0 : Int32)), .val (.int (0 : Int32))] [(.int (1 : Int32))])
    refine own_retN X42 hx (own_lvN X42 hlk (by decide) (by decide)) (t := .boolean) hret (by simp) (hb hby at_117) ?_
    exact ⟨rfl, N42⟩
set_option maxRecDepth 65536 in
set_option maxHeartbeats 40000000 in
theorem comes_1 {Post : Tables → Env → Array Value → State → Outcome → State → Prop} (hpost : ∀ tb e args s v u, (limb_1_1.after args s (.returned v) u = true ∧ limb_1_2.after args s (.returned v) u = true ∧ True) → FrameEnd s (.returned v) u (Jvm.fieldLocs frame_1_writes args s ++ Jvm.arrayLocs frame_1_arrays args s ++ Jvm.staticLocs frame_1_statics s) 16 128 → Post tb e args s (.returned v) u) :
    ArmFor flags0 classFile x code maxLocals ret World_1 tables_1 room_1 Calls_1 rest_1 Pre_1 Post := by
  intro l hfl _ _ p e ha hc hk s m args below hf hA hF happ hP
  obtain ⟨hcalls, hrest, hpre⟩ := hP
  obtain ⟨-, -, -, hnamed, -, -, -, hat⟩ := (Spec.applies_iff hf).mp happ
  obtain ⟨hg, hn⟩ := and_e (Cond.before_iff.mp (show (Jvm.Cond.and given_1 narrow_1).before args s = true from hpre))
  obtain ⟨g1, g2⟩ := and_e hg
  obtain ⟨g3, g4⟩ := and_e g2
  obtain ⟨g5, g6⟩ := and_e g4
  obtain ⟨g7, g8⟩ := and_e g6
  obtain ⟨g9, g10⟩ := and_e g8
  obtain ⟨g11, g12⟩ := and_e g10
  obtain ⟨w0, w1, w2, w3, w4, w5, rfl⟩ : ∃ w0 w1 w2 w3 w4 w5 : Value, args = #[w0, w1, w2, w3, w4, w5] := by
    have hs : args.size = 6 := by simpa [Cond.value, given_1] using g1
    obtain ⟨L⟩ := args
    match L, hs with
    | [w0, w1, w2, w3, w4, w5], _ => exact ⟨w0, w1, w2, w3, w4, w5, rfl⟩
  have hw := fun d (hd : d ∈ tables_1) => atoms_spec (ws := Jvm.Cond.code x code maxLocals ret :: tables_1) hat d (List.mem_cons_of_mem _ hd)
  obtain ⟨i0, ei0⟩ := is_v g3
  obtain rfl : w0 = (.int i0) := Option.some.inj ei0
  obtain ⟨i1, ei1⟩ := is_v g5
  obtain rfl : w1 = (.int i1) := Option.some.inj ei1
  obtain ⟨i2, ei2⟩ := is_v g7
  obtain rfl : w2 = (.int i2) := Option.some.inj ei2
  obtain ⟨i3, ei3⟩ := isL_v g9
  obtain rfl : w3 = (.long i3) := Option.some.inj ei3
  obtain ⟨i4, ei4⟩ := is_v g11
  obtain rfl : w4 = (.int i4) := Option.some.inj ei4
  obtain ⟨i5, ei5⟩ := is_v g12
  obtain rfl : w5 = (.int i5) := Option.some.inj ei5
  obtain ⟨g13, g14⟩ := and_e hn
  obtain ⟨g15, g16⟩ := and_e g14
  obtain ⟨g17, g18⟩ := and_e g16
  obtain ⟨g19, g20⟩ := and_e g18
  obtain ⟨w_C3, ew_C3⟩ := exa_v g13
  have S_C3 : Sta s s.heap "com/example/term_weight_evolver/termweightevolver/constraints/Constraint" "C3" "Lcom/example/term_weight_evolver/termweightevolver/constraints/Constraint;" (.ref w_C3) := Sta.start ew_C3 (Or.inr ⟨(hw _ (List.mem_of_getElem? (i := 6) rfl)), (hw _ (List.mem_of_getElem? (i := 7) rfl))⟩)
  have E_C3 : Exa s s.heap w_C3 "com/example/term_weight_evolver/termweightevolver/constraints/Constraint" := Exa.start ew_C3 g13
  obtain ⟨w_C2, ew_C2⟩ := exa_v g15
  have S_C2 : Sta s s.heap "com/example/term_weight_evolver/termweightevolver/constraints/Constraint" "C2" "Lcom/example/term_weight_evolver/termweightevolver/constraints/Constraint;" (.ref w_C2) := Sta.start ew_C2 (Or.inr ⟨(hw _ (List.mem_of_getElem? (i := 6) rfl)), (hw _ (List.mem_of_getElem? (i := 37) rfl))⟩)
  have E_C2 : Exa s s.heap w_C2 "com/example/term_weight_evolver/termweightevolver/constraints/Constraint" := Exa.start ew_C2 g15
  obtain ⟨w_C4, ew_C4⟩ := exa_v g17
  have S_C4 : Sta s s.heap "com/example/term_weight_evolver/termweightevolver/constraints/Constraint" "C4" "Lcom/example/term_weight_evolver/termweightevolver/constraints/Constraint;" (.ref w_C4) := Sta.start ew_C4 (Or.inr ⟨(hw _ (List.mem_of_getElem? (i := 6) rfl)), (hw _ (List.mem_of_getElem? (i := 54) rfl))⟩)
  have E_C4 : Exa s s.heap w_C4 "com/example/term_weight_evolver/termweightevolver/constraints/Constraint" := Exa.start ew_C4 g17
  obtain ⟨w_C1, ew_C1⟩ := exa_v g19
  have S_C1 : Sta s s.heap "com/example/term_weight_evolver/termweightevolver/constraints/Constraint" "C1" "Lcom/example/term_weight_evolver/termweightevolver/constraints/Constraint;" (.ref w_C1) := Sta.start ew_C1 (Or.inr ⟨(hw _ (List.mem_of_getElem? (i := 6) rfl)), (hw _ (List.mem_of_getElem? (i := 56) rfl))⟩)
  have E_C1 : Exa s s.heap w_C1 "com/example/term_weight_evolver/termweightevolver/constraints/Constraint" := Exa.start ew_C1 g19
  obtain ⟨w_C1_1, ew_C1_1⟩ := exa_v g20
  have S_C1_1 : Sta s s.heap "com/example/term_weight_evolver/termweightevolver/constraints/Constraint" "C1_1" "Lcom/example/term_weight_evolver/termweightevolver/constraints/Constraint;" (.ref w_C1_1) := Sta.start ew_C1_1 (Or.inr ⟨(hw _ (List.mem_of_getElem? (i := 6) rfl)), (hw _ (List.mem_of_getElem? (i := 58) rfl))⟩)
  have E_C1_1 : Exa s s.heap w_C1_1 "com/example/term_weight_evolver/termweightevolver/constraints/Constraint" := Exa.start ew_C1_1 g20
  obtain ⟨n, o, h1, h2, h3, _, L, rfl, ⟨rfl, N⟩, hq⟩ := rm0 l s _ hw tables_1 i0 i1 i2 i3 i4 i5 w_C3 w_C2 w_C4 w_C1 w_C1_1  s.heap s.heap.size (Nat.le_refl _) S_C3 E_C3 S_C2 E_C2 S_C4 E_C4 S_C1 E_C1 S_C1_1 E_C1_1  p e ha hc hk s m _ below hf ((Spec.applies_iff_loose hf).mp happ).1 ⟨rfl, State.Warmed39.refl s, rfl⟩ trivial
  refine ⟨n, _, h1, h2, h3, hpost _ _ _ _ _ _ ⟨Cond.after_iff.mpr rfl, Cond.after_iff.mpr (eq_i res_at (Term.int_eval (1)) rfl), trivial⟩ ⟨hq.1, hq.2.1, (hq.2.2.sift fun y hy => Or.inr (N y hy)).mono (by decide) (by decide)⟩⟩
theorem main_1_1 : Claimed_1_1 := comes_1 fun _ _ _ _ _ _ h hF => ⟨h.1, hF⟩
theorem main_1_2 : Claimed_1_2 := comes_1 fun _ _ _ _ _ _ h hF => ⟨h.2.1, hF⟩
end Jvm.Pilot.@@N@@
namespace Jvm.Pilot.@@N@@
open Jvm Jvm.ClassFile Sem Op Lib Jvm.Free Jvm.Stand Jvm.Pilot.@@N@@.Jvm.D
/-! MADE BY PROGRAM (witnessworld.py) out of the Statement's table words and the real class files: 14 classes; the members and pool entries that the words name. The judged class is class 1, her method 2. -/
namespace start1
open Jvm.ClassFile
def u (s : String) : CpInfo := .utf8 (stringToUtf16 s)
/-- a pool by its gaps: so many unusable entries, then the entry; so many at the end -/
def gap : Nat → List CpInfo → List CpInfo
  | 0, r => r
  | n + 1, r => .unusable :: gap n r
def poolList (es : List (Nat × CpInfo)) (last : Nat) : List CpInfo := es.foldr (fun e r => gap e.1 (e.2 :: r)) (gap last [])
def pool (es : List (Nat × CpInfo)) (last : Nat) : Array CpInfo := ⟨poolList es last⟩
def fileOf (pool : Array CpInfo) (this : Nat) (attrs : Array Attribute := #[]) (ms : Array MethodInfo := #[]) (fl : Nat := 33) (sup : Nat := 0) (ifs : Array Nat := #[]) (fds : Array FieldInfo := #[]) : ClassFile where
  minorVersion := 0
  majorVersion := 65
  constantPool := pool
  accessFlags := fl
  thisClass := this
  superClass := sup
  interfaces := ifs
  fields := fds
  methods := ms
  attributes := attrs
def plain (name : String) (sup : Option ClassId) : Class where
  name := name
  kind := .ordinary
  loader := none
  accessFlags := 33
  super := sup
  interfaces := #[]
  cf := none
  fields := #[]
  methods := #[]
  instanceTypes := #[]
  staticTypes := #[]
  resolved := #[]
  callSites := []
  init := .initialized
  statics := none
  mirror := none

def pool0 : Array CpInfo := pool [(5, u "<init>"), (0, u "()V"), (1, .class_ 10), (1, u "java/lang/Object")] 113

def k0c0 : Code := { maxStack := 0, maxLocals := 1, code := object_method_1_code, exceptionTable := #[], attributes := #[] }
def k0m0 : Method := { name := "<init>", desc := "()V", sig := { parameters := [], returnType := none }, accessFlags := 1, code := some k0c0 }
/-- java/lang/Object -/
def k0 : Class := { plain "java/lang/Object" none with
  accessFlags := 33
  interfaces := #[]
  cf := some (fileOf pool0 8 #[] #[{ accessFlags := 1, nameIndex := 5, descriptorIndex := 6, attributes := #[] }] 33 0 #[] #[])
  fields := #[]
  methods := #[k0m0]
  instanceTypes := #[]
  staticTypes := #[]
  resolved := Array.replicate 124 none
  statics := none }

def pool1 : Array CpInfo := pool [(2, .class_ 4), (1, u "java/lang/Object"), (0, u "<init>"), (0, u "()V"), (0, .integer 2147483647), (0, .fieldref 9 10), (0, .class_ 11), (0, .nameAndType 12 13), (0, u "com/example/term_weight_evolver/termweightevolver/constraints/Constraint"), (0, u "C1"), (0, u "Lcom/example/term_weight_evolver/termweightevolver/constraints/Constraint;"), (0, .fieldref 9 15), (0, .nameAndType 16 13), (0, u "C1_1"), (0, .fieldref 9 18), (0, .nameAndType 19 13), (0, u "C2"), (0, .fieldref 9 21), (0, .nameAndType 22 13), (0, u "C3"), (0, .fieldref 9 24), (0, .nameAndType 25 13), (0, u "C4"), (0, .methodref 27 28), (0, .class_ 29), (0, .nameAndType 30 31), (0, u "com/example/term_weight_evolver/termweightevolver/constraints/VerdictHoldsPinLaw"), (0, u "pick"), (0, u "(I)Lcom/example/term_weight_evolver/termweightevolver/constraints/Constraint;"), (0, .class_ 33), (0, u "com/example/term_weight_evolver/termweightevolver/constraints/Probe"), (0, .methodref 32 35), (0, .nameAndType 5 36), (0, u "(IJII)V"), (0, .class_ 38), (0, u "com/example/term_weight_evolver/termweightevolver/constraints/Verdict"), (0, .methodref 37 40), (0, .nameAndType 5 41), (0, u "(Lcom/example/term_weight_evolver/termweightevolver/constraints/Constraint;Lcom/example/term_weight_evolver/termweightevolver/constraints/Probe;)V"), (0, .methodref 37 43), (0, .nameAndType 44 45), (0, u "holds"), (0, u "()Z"), (0, .methodref 37 47), (0, .nameAndType 48 49), (0, u "violation"), (0, u "()Lcom/example/term_weight_evolver/termweightevolver/constraints/Probe;"), (0, .methodref 37 51), (0, .nameAndType 52 53), (0, u "constraint"), (0, u "()Lcom/example/term_weight_evolver/termweightevolver/constraints/Constraint;"), (3, u "law"), (0, u "(IIIJII)Z")] 2

def k1m0 : Method := { name := "<init>", desc := "()V", sig := { parameters := [], returnType := none }, accessFlags := 1, code := none }
def k1c1 : Code := { maxStack := 2, maxLocals := 2, code := method_2_code, exceptionTable := #[], attributes := #[] }
def k1m1 : Method := { name := "pick", desc := "(I)Lcom/example/term_weight_evolver/termweightevolver/constraints/Constraint;", sig := { parameters := [.int], returnType := some (.object "com/example/term_weight_evolver/termweightevolver/constraints/Constraint") }, accessFlags := 10, code := some k1c1 }
def k1c2 : Code := { maxStack := 7, maxLocals := 13, code := code, exceptionTable := #[], attributes := #[] }
def k1m2 : Method := { name := "law", desc := "(IIIJII)Z", sig := { parameters := [.int, .int, .int, .long, .int, .int], returnType := some .boolean }, accessFlags := 9, code := some k1c2 }
/-- com/example/term_weight_evolver/termweightevolver/constraints/VerdictHoldsPinLaw -/
def k1 : Class := { plain "com/example/term_weight_evolver/termweightevolver/constraints/VerdictHoldsPinLaw" (some 0) with
  accessFlags := 49
  interfaces := #[]
  cf := some (fileOf pool1 27 #[] #[{ accessFlags := 1, nameIndex := 5, descriptorIndex := 6, attributes := #[] }, { accessFlags := 10, nameIndex := 30, descriptorIndex := 31, attributes := #[] }, { accessFlags := 9, nameIndex := 57, descriptorIndex := 58, attributes := #[] }] 49 2 #[] #[])
  fields := #[]
  methods := #[k1m0, k1m1, k1m2]
  instanceTypes := #[]
  staticTypes := #[]
  resolved := Array.replicate 61 none
  statics := none }

def pool2 : Array CpInfo := pool [(1, .class_ 2), (0, u "java/lang/constant/Constable"), (0, .class_ 4), (0, u "java/lang/Object")] 6

/-- java/lang/constant/Constable -/
def k2 : Class := { plain "java/lang/constant/Constable" (some 0) with
  accessFlags := 1537
  interfaces := #[]
  cf := some (fileOf pool2 1 #[] #[] 1537 3 #[] #[])
  fields := #[]
  methods := #[]
  instanceTypes := #[]
  staticTypes := #[]
  resolved := Array.replicate 11 none
  statics := none }

def pool3 : Array CpInfo := pool [(1, .class_ 2), (0, u "java/lang/Comparable"), (0, .class_ 4), (0, u "java/lang/Object")] 7

/-- java/lang/Comparable -/
def k3 : Class := { plain "java/lang/Comparable" (some 0) with
  accessFlags := 1537
  interfaces := #[]
  cf := some (fileOf pool3 1 #[] #[] 1537 3 #[] #[])
  fields := #[]
  methods := #[]
  instanceTypes := #[]
  staticTypes := #[]
  resolved := Array.replicate 12 none
  statics := none }

def pool4 : Array CpInfo := pool [(1, .class_ 2), (0, u "java/io/Serializable"), (0, .class_ 4), (0, u "java/lang/Object")] 2

/-- java/io/Serializable -/
def k4 : Class := { plain "java/io/Serializable" (some 0) with
  accessFlags := 1537
  interfaces := #[]
  cf := some (fileOf pool4 1 #[] #[] 1537 3 #[] #[])
  fields := #[]
  methods := #[]
  instanceTypes := #[]
  staticTypes := #[]
  resolved := Array.replicate 7 none
  statics := none }

def pool5 : Array CpInfo := pool [(2, .class_ 4), (1, u "java/lang/Enum"), (0, u "name"), (0, u "Ljava/lang/String;"), (2, u "ordinal"), (0, u "I"), (1, .class_ 14), (1, u "java/lang/Object"), (4, u "hash"), (86, .class_ 108), (1, u "java/lang/Enum$EnumDesc"), (2, .class_ 112), (0, u "java/lang/constant/Constable"), (0, .class_ 114), (0, u "java/lang/Comparable"), (0, .class_ 116), (0, u "java/io/Serializable")] 87

/-- java/lang/Enum -/
def k5 : Class := { plain "java/lang/Enum" (some 0) with
  accessFlags := 1057
  interfaces := #[2, 3, 4]
  cf := some (fileOf pool5 2 #[.nestMembers #[106]] #[] 1057 12 #[111, 113, 115] #[{ accessFlags := 18, nameIndex := 5, descriptorIndex := 6, attributes := #[] }, { accessFlags := 18, nameIndex := 9, descriptorIndex := 10, attributes := #[] }, { accessFlags := 2, nameIndex := 19, descriptorIndex := 10, attributes := #[] }])
  fields := #[{ name := "name", type := (.object "java/lang/String"), accessFlags := 18, slot := 0, constantValue := 0 }, { name := "ordinal", type := .int, accessFlags := 18, slot := 1, constantValue := 0 }, { name := "hash", type := .int, accessFlags := 2, slot := 2, constantValue := 0 }]
  methods := #[]
  instanceTypes := #[(.object "java/lang/String"), .int, .int]
  staticTypes := #[]
  resolved := Array.replicate 204 none
  statics := none }

def pool6 : Array CpInfo := pool [(1, .class_ 2), (0, u "com/example/term_weight_evolver/termweightevolver/constraints/Constraint"), (2, u "C1"), (0, u "Lcom/example/term_weight_evolver/termweightevolver/constraints/Constraint;"), (2, u "C1_1"), (2, u "C2"), (2, u "C3"), (2, u "C4"), (2, u "$VALUES"), (0, u "[Lcom/example/term_weight_evolver/termweightevolver/constraints/Constraint;"), (6, .class_ 31), (1, u "java/lang/Enum"), (8, u "label"), (0, u "Ljava/lang/String;"), (45, u "TOLERANCE"), (0, u "D"), (1, u "REACH"), (0, u "I")] 17

/-- com/example/term_weight_evolver/termweightevolver/constraints/Constraint -/
def k6 : Class := { plain "com/example/term_weight_evolver/termweightevolver/constraints/Constraint" (some 5) with
  accessFlags := 16433
  interfaces := #[]
  cf := some (fileOf pool6 1 #[] #[] 16433 29 #[] #[{ accessFlags := 16409, nameIndex := 5, descriptorIndex := 6, attributes := #[] }, { accessFlags := 16409, nameIndex := 9, descriptorIndex := 6, attributes := #[] }, { accessFlags := 16409, nameIndex := 12, descriptorIndex := 6, attributes := #[] }, { accessFlags := 16409, nameIndex := 15, descriptorIndex := 6, attributes := #[] }, { accessFlags := 16409, nameIndex := 18, descriptorIndex := 6, attributes := #[] }, { accessFlags := 25, nameIndex := 87, descriptorIndex := 88, attributes := #[] }, { accessFlags := 24, nameIndex := 90, descriptorIndex := 91, attributes := #[] }, { accessFlags := 18, nameIndex := 40, descriptorIndex := 41, attributes := #[] }, { accessFlags := 4122, nameIndex := 21, descriptorIndex := 22, attributes := #[] }])
  fields := #[{ name := "C1", type := (.object "com/example/term_weight_evolver/termweightevolver/constraints/Constraint"), accessFlags := 16409, slot := 0, constantValue := 0 }, { name := "C1_1", type := (.object "com/example/term_weight_evolver/termweightevolver/constraints/Constraint"), accessFlags := 16409, slot := 1, constantValue := 0 }, { name := "C2", type := (.object "com/example/term_weight_evolver/termweightevolver/constraints/Constraint"), accessFlags := 16409, slot := 2, constantValue := 0 }, { name := "C3", type := (.object "com/example/term_weight_evolver/termweightevolver/constraints/Constraint"), accessFlags := 16409, slot := 3, constantValue := 0 }, { name := "C4", type := (.object "com/example/term_weight_evolver/termweightevolver/constraints/Constraint"), accessFlags := 16409, slot := 4, constantValue := 0 }, { name := "TOLERANCE", type := .double, accessFlags := 25, slot := 5, constantValue := 0 }, { name := "REACH", type := .int, accessFlags := 24, slot := 6, constantValue := 0 }, { name := "label", type := (.object "java/lang/String"), accessFlags := 18, slot := 3, constantValue := 0 }, { name := "$VALUES", type := (.array (.object "com/example/term_weight_evolver/termweightevolver/constraints/Constraint")), accessFlags := 4122, slot := 7, constantValue := 0 }]
  methods := #[]
  instanceTypes := #[(.object "java/lang/String"), .int, .int, (.object "java/lang/String")]
  staticTypes := #[(.object "com/example/term_weight_evolver/termweightevolver/constraints/Constraint"), (.object "com/example/term_weight_evolver/termweightevolver/constraints/Constraint"), (.object "com/example/term_weight_evolver/termweightevolver/constraints/Constraint"), (.object "com/example/term_weight_evolver/termweightevolver/constraints/Constraint"), (.object "com/example/term_weight_evolver/termweightevolver/constraints/Constraint"), .double, .int, (.array (.object "com/example/term_weight_evolver/termweightevolver/constraints/Constraint"))]
  resolved := Array.replicate 109 none
  statics := some 0 }

def pool7 : Array CpInfo := pool [(1, .methodref 2 3), (0, .class_ 4), (0, .nameAndType 5 6), (0, u "java/lang/Object"), (0, u "<init>"), (0, u "()V"), (0, .fieldref 8 9), (0, .class_ 10), (0, .nameAndType 11 12), (0, u "com/example/term_weight_evolver/termweightevolver/constraints/Verdict"), (0, u "constraint"), (0, u "Lcom/example/term_weight_evolver/termweightevolver/constraints/Constraint;"), (0, .fieldref 8 14), (0, .nameAndType 15 16), (0, u "violation"), (0, u "Lcom/example/term_weight_evolver/termweightevolver/constraints/Probe;"), (0, u "(Lcom/example/term_weight_evolver/termweightevolver/constraints/Constraint;Lcom/example/term_weight_evolver/termweightevolver/constraints/Probe;)V"), (2, u "()Lcom/example/term_weight_evolver/termweightevolver/constraints/Constraint;"), (0, u "holds"), (0, u "()Z"), (1, u "()Lcom/example/term_weight_evolver/termweightevolver/constraints/Probe;")] 2

def k7c0 : Code := { maxStack := 2, maxLocals := 3, code := prog_6_method_1_code, exceptionTable := #[], attributes := #[] }
def k7m0 : Method := { name := "<init>", desc := "(Lcom/example/term_weight_evolver/termweightevolver/constraints/Constraint;Lcom/example/term_weight_evolver/termweightevolver/constraints/Probe;)V", sig := { parameters := [(.object "com/example/term_weight_evolver/termweightevolver/constraints/Constraint"), (.object "com/example/term_weight_evolver/termweightevolver/constraints/Probe")], returnType := none }, accessFlags := 0, code := some k7c0 }
def k7c1 : Code := { maxStack := 1, maxLocals := 1, code := prog_6_method_2_code, exceptionTable := #[], attributes := #[] }
def k7m1 : Method := { name := "constraint", desc := "()Lcom/example/term_weight_evolver/termweightevolver/constraints/Constraint;", sig := { parameters := [], returnType := some (.object "com/example/term_weight_evolver/termweightevolver/constraints/Constraint") }, accessFlags := 1, code := some k7c1 }
def k7c2 : Code := { maxStack := 1, maxLocals := 1, code := prog_6_method_3_code, exceptionTable := #[], attributes := #[] }
def k7m2 : Method := { name := "holds", desc := "()Z", sig := { parameters := [], returnType := some .boolean }, accessFlags := 1, code := some k7c2 }
def k7c3 : Code := { maxStack := 1, maxLocals := 1, code := prog_6_method_4_code, exceptionTable := #[], attributes := #[] }
def k7m3 : Method := { name := "violation", desc := "()Lcom/example/term_weight_evolver/termweightevolver/constraints/Probe;", sig := { parameters := [], returnType := some (.object "com/example/term_weight_evolver/termweightevolver/constraints/Probe") }, accessFlags := 1, code := some k7c3 }
/-- com/example/term_weight_evolver/termweightevolver/constraints/Verdict -/
def k7 : Class := { plain "com/example/term_weight_evolver/termweightevolver/constraints/Verdict" (some 0) with
  accessFlags := 49
  interfaces := #[]
  cf := some (fileOf pool7 8 #[] #[{ accessFlags := 0, nameIndex := 5, descriptorIndex := 17, attributes := #[] }, { accessFlags := 1, nameIndex := 11, descriptorIndex := 20, attributes := #[] }, { accessFlags := 1, nameIndex := 21, descriptorIndex := 22, attributes := #[] }, { accessFlags := 1, nameIndex := 15, descriptorIndex := 24, attributes := #[] }] 49 2 #[] #[{ accessFlags := 18, nameIndex := 11, descriptorIndex := 12, attributes := #[] }, { accessFlags := 18, nameIndex := 15, descriptorIndex := 16, attributes := #[] }])
  fields := #[{ name := "constraint", type := (.object "com/example/term_weight_evolver/termweightevolver/constraints/Constraint"), accessFlags := 18, slot := 0, constantValue := 0 }, { name := "violation", type := (.object "com/example/term_weight_evolver/termweightevolver/constraints/Probe"), accessFlags := 18, slot := 1, constantValue := 0 }]
  methods := #[k7m0, k7m1, k7m2, k7m3]
  instanceTypes := #[(.object "com/example/term_weight_evolver/termweightevolver/constraints/Constraint"), (.object "com/example/term_weight_evolver/termweightevolver/constraints/Probe")]
  staticTypes := #[]
  resolved := Array.replicate 27 none
  statics := none }

def pool8 : Array CpInfo := pool [(1, .methodref 2 3), (0, .class_ 4), (0, .nameAndType 5 6), (0, u "java/lang/Object"), (0, u "<init>"), (0, u "()V"), (0, .fieldref 8 9), (0, .class_ 10), (0, .nameAndType 11 12), (0, u "com/example/term_weight_evolver/termweightevolver/constraints/Probe"), (0, u "df"), (0, u "I"), (0, .fieldref 8 14), (0, .nameAndType 15 16), (0, u "cf"), (0, u "J"), (0, .fieldref 8 18), (0, .nameAndType 19 12), (0, u "tf"), (0, .fieldref 8 21), (0, .nameAndType 22 12), (0, u "dl"), (21, u "(IJII)V")] 27

def k8c0 : Code := { maxStack := 3, maxLocals := 6, code := prog_5_method_1_code, exceptionTable := #[], attributes := #[] }
def k8m0 : Method := { name := "<init>", desc := "(IJII)V", sig := { parameters := [.int, .long, .int, .int], returnType := none }, accessFlags := 0, code := some k8c0 }
/-- com/example/term_weight_evolver/termweightevolver/constraints/Probe -/
def k8 : Class := { plain "com/example/term_weight_evolver/termweightevolver/constraints/Probe" (some 0) with
  accessFlags := 49
  interfaces := #[]
  cf := some (fileOf pool8 8 #[] #[{ accessFlags := 0, nameIndex := 5, descriptorIndex := 44, attributes := #[] }] 49 2 #[] #[{ accessFlags := 18, nameIndex := 11, descriptorIndex := 12, attributes := #[] }, { accessFlags := 18, nameIndex := 15, descriptorIndex := 16, attributes := #[] }, { accessFlags := 18, nameIndex := 19, descriptorIndex := 12, attributes := #[] }, { accessFlags := 18, nameIndex := 22, descriptorIndex := 12, attributes := #[] }])
  fields := #[{ name := "df", type := .int, accessFlags := 18, slot := 0, constantValue := 0 }, { name := "cf", type := .long, accessFlags := 18, slot := 1, constantValue := 0 }, { name := "tf", type := .int, accessFlags := 18, slot := 2, constantValue := 0 }, { name := "dl", type := .int, accessFlags := 18, slot := 3, constantValue := 0 }]
  methods := #[k8m0]
  instanceTypes := #[.int, .long, .int, .int]
  staticTypes := #[]
  resolved := Array.replicate 72 none
  statics := none }

def pool9 : Array CpInfo := pool [(1, u "java/lang/Cloneable"), (0, .class_ 1), (0, u "java/lang/Object"), (0, .class_ 3)] 3

/-- java/lang/Cloneable -/
def k9 : Class := { plain "java/lang/Cloneable" (some 0) with
  accessFlags := 1537
  interfaces := #[]
  cf := some (fileOf pool9 2 #[] #[] 1537 4 #[] #[])
  fields := #[]
  methods := #[]
  instanceTypes := #[]
  staticTypes := #[]
  resolved := Array.replicate 8 none
  statics := none }

/-- the primitive byte -/
def k10 : Class := { plain "byte" none with kind := .primitive 'B', accessFlags := 0x411 }
/-- [B -/
def k11 : Class := { plain "[B" (some 0) with kind := .array 10 .byte, interfaces := #[9, 4], accessFlags := 1041 }

/-- the primitive int -/
def k12 : Class := { plain "int" none with kind := .primitive 'I', accessFlags := 0x411 }
/-- [I -/
def k13 : Class := { plain "[I" (some 0) with kind := .array 12 .int, interfaces := #[9, 4], accessFlags := 1041 }

def heap : Heap := #[{ cls := 6, slots := #[.ref 4, .ref 5, .ref 2, .ref 1, .ref 3, .double 0, .int 0, .null], vm := .statics 6 },
  { cls := 6, slots := #[.null, .int 0, .int 0, .null], vm := .none },
  { cls := 6, slots := #[.null, .int 0, .int 0, .null], vm := .none },
  { cls := 6, slots := #[.null, .int 0, .int 0, .null], vm := .none },
  { cls := 6, slots := #[.null, .int 0, .int 0, .null], vm := .none },
  { cls := 6, slots := #[.null, .int 0, .int 0, .null], vm := .none }]
def classes : Array Class := #[k0, k1, k2, k3, k4, k5, k6, k7, k8, k9, k10, k11, k12, k13]
def interned : List (Array UInt16 × Addr) := []
def slotsUsed : Nat := 28
def theMethod : MethodId := ⟨1, 2⟩
def args0 : Array Value := #[.int 5, .int 3, .int 7, .long 8, .int 9, .int 10]
def aboutOver (below : List Frame) : State where
  vm := { classes := classes, interned := interned.toArray }
  heap := heap
  slotsUsed := slotsUsed
  threads := #[{ frames := .invoking theMethod args0 :: below }]
def below0 : List Frame := [.native { method := ⟨0, 0⟩, args := #[] }]
def about1 : State := aboutOver below0
def p0 : Program := .bare "" "" ""
def e0 : Env := launch0.env 0 0 0
theorem w_frames : about1.frames = Frame.invoking theMethod args0 :: below0 := rfl
set_option maxRecDepth 65536 in
theorem w_args : argsFit about1.vm theMethod args0 = true := by decide +kernel
set_option maxRecDepth 65536 in
theorem w_heap : heapFits about1 = true := by decide +kernel
set_option maxRecDepth 65536 in
theorem w_runnable : about1.curStatus? = some .runnable := by decide +kernel
set_option maxRecDepth 65536 in
theorem w_alone : about1.alone = true := by decide +kernel
set_option maxRecDepth 65536 in
theorem w_named : about1.methodNamed? x = some theMethod := by decide +kernel
set_option maxRecDepth 65536 in
theorem w_hears : about1.hears theMethod below0 = true := by decide +kernel
set_option maxRecDepth 65536 in
theorem w_ripe : about1.ripe theMethod args0 below0 = true := by decide +kernel
theorem w_running : about1.status = .running := rfl
set_option maxRecDepth 65536 in
theorem w_room : about1.hasRoom e0.platform room_1 = true :=
  launch0.hasRoom_least _ room_1 (by decide +kernel) (by decide +kernel) (by decide +kernel) (by decide +kernel) (by decide +kernel) (by decide +kernel)
theorem allAtoms_all (ts : List Jvm.Cond) (a : Array Jvm.Value) (st : Jvm.State) : (allAtoms ts).before a st = ts.all (fun c => c.before a st) := by
  induction ts with
  | nil => rfl
  | cons c t ih =>
    show (Jvm.Cond.and c (allAtoms t)).before a st = _
    rw [Jvm.Cond.before_and, ih, List.all_cons]
def words1 : List Jvm.Cond := Jvm.Cond.code x code maxLocals ret :: tables_1
/-- a 'code' word, met by the world's own term for the bytes: nothing is compared byte by byte -/
theorem code_word {y : MethodName} {bytes : ByteArray} {mx : Nat} {rt : Option FieldType} {a : Array Value} {s : State} {m : MethodId} {meth : Method} {c : Code} (h1 : s.methodNamed? y = some m) (h2 : s.vm.method? m = some meth) (h3 : meth.code = some c) (h4 : c.code = bytes)
    (h5 : (c.maxLocals == mx && c.exceptionTable.isEmpty && decide (c.maxStack ≤ mostOperands) && decide (meth.sig.returnType = rt) && !meth.locks && decide (parseMethodDescriptor y.desc = some meth.sig)) = true) : (Jvm.Cond.code y bytes mx rt).before a s = true := by
  simp only [Bool.and_eq_true, beq_iff_eq, Bool.not_eq_true', decide_eq_true_eq] at h5
  obtain ⟨⟨⟨⟨⟨g1, g2⟩, g3⟩, g4⟩, g5⟩, g6⟩ := h5
  simp [Cond.before, Cond.holds, Cond.value, h1, h2, h3, h4, g1, g2, g3, g4, g5, g6]
def isCode : Jvm.Cond → Bool
  | .code _ _ _ _ => true
  | _ => false
theorem all_split {L : List Jvm.Cond} {P : Jvm.Cond → Bool} (h1 : L.all (fun c => isCode c || P c) = true) (h2 : ∀ c ∈ L.filter isCode, P c = true) : L.all P = true := by
  refine List.all_eq_true.mpr fun c hc => ?_
  have h := List.all_eq_true.mp h1 c hc
  rcases Bool.eq_false_or_eq_true (isCode c) with hi | hi
  · exact h2 c (List.mem_filter.mpr ⟨hc, hi⟩)
  · simpa [hi] using h
set_option maxRecDepth 65536 in
theorem w_c0 : (Jvm.Cond.code x code maxLocals ret).before args0 about1 = true := code_word (m := ⟨1, 2⟩) (meth := k1m2) (c := k1c2) (by decide +kernel) rfl rfl rfl (by decide +kernel)
set_option maxRecDepth 65536 in
theorem w_c1 : (Jvm.Cond.code ({ cls := "com/example/term_weight_evolver/termweightevolver/constraints/VerdictHoldsPinLaw", name := "pick", desc := "(I)Lcom/example/term_weight_evolver/termweightevolver/constraints/Constraint;" } : Jvm.MethodName) method_2_code (2 : Nat) (Option.some (Jvm.ClassFile.FieldType.object "com/example/term_weight_evolver/termweightevolver/constraints/Constraint"))).before args0 about1 = true := code_word (m := ⟨1, 1⟩) (meth := k1m1) (c := k1c1) (by decide +kernel) rfl rfl rfl (by decide +kernel)
set_option maxRecDepth 65536 in
theorem w_c2 : (Jvm.Cond.code ({ cls := "com/example/term_weight_evolver/termweightevolver/constraints/Verdict", name := "<init>", desc := "(Lcom/example/term_weight_evolver/termweightevolver/constraints/Constraint;Lcom/example/term_weight_evolver/termweightevolver/constraints/Probe;)V" } : Jvm.MethodName) prog_6_method_1_code (3 : Nat) (Option.none : Option Jvm.ClassFile.FieldType)).before args0 about1 = true := code_word (m := ⟨7, 0⟩) (meth := k7m0) (c := k7c0) (by decide +kernel) rfl rfl rfl (by decide +kernel)
set_option maxRecDepth 65536 in
theorem w_c3 : (Jvm.Cond.code ({ cls := "java/lang/Object", name := "<init>", desc := "()V" } : Jvm.MethodName) object_method_1_code (1 : Nat) (Option.none : Option Jvm.ClassFile.FieldType)).before args0 about1 = true := code_word (m := ⟨0, 0⟩) (meth := k0m0) (c := k0c0) (by decide +kernel) rfl rfl rfl (by decide +kernel)
set_option maxRecDepth 65536 in
theorem w_c4 : (Jvm.Cond.code ({ cls := "com/example/term_weight_evolver/termweightevolver/constraints/Verdict", name := "holds", desc := "()Z" } : Jvm.MethodName) prog_6_method_3_code (1 : Nat) (Option.some Jvm.ClassFile.FieldType.boolean)).before args0 about1 = true := code_word (m := ⟨7, 2⟩) (meth := k7m2) (c := k7c2) (by decide +kernel) rfl rfl rfl (by decide +kernel)
set_option maxRecDepth 65536 in
theorem w_c5 : (Jvm.Cond.code ({ cls := "com/example/term_weight_evolver/termweightevolver/constraints/Verdict", name := "violation", desc := "()Lcom/example/term_weight_evolver/termweightevolver/constraints/Probe;" } : Jvm.MethodName) prog_6_method_4_code (1 : Nat) (Option.some (Jvm.ClassFile.FieldType.object "com/example/term_weight_evolver/termweightevolver/constraints/Probe"))).before args0 about1 = true := code_word (m := ⟨7, 3⟩) (meth := k7m3) (c := k7c3) (by decide +kernel) rfl rfl rfl (by decide +kernel)
set_option maxRecDepth 65536 in
theorem w_c6 : (Jvm.Cond.code ({ cls := "com/example/term_weight_evolver/termweightevolver/constraints/Verdict", name := "constraint", desc := "()Lcom/example/term_weight_evolver/termweightevolver/constraints/Constraint;" } : Jvm.MethodName) prog_6_method_2_code (1 : Nat) (Option.some (Jvm.ClassFile.FieldType.object "com/example/term_weight_evolver/termweightevolver/constraints/Constraint"))).before args0 about1 = true := code_word (m := ⟨7, 1⟩) (meth := k7m1) (c := k7c1) (by decide +kernel) rfl rfl rfl (by decide +kernel)
set_option maxRecDepth 65536 in
theorem w_c7 : (Jvm.Cond.code ({ cls := "com/example/term_weight_evolver/termweightevolver/constraints/Probe", name := "<init>", desc := "(IJII)V" } : Jvm.MethodName) prog_5_method_1_code (6 : Nat) (Option.none : Option Jvm.ClassFile.FieldType)).before args0 about1 = true := code_word (m := ⟨8, 0⟩) (meth := k8m0) (c := k8c0) (by decide +kernel) rfl rfl rfl (by decide +kernel)
def codes1 : List Jvm.Cond := [Jvm.Cond.code x code maxLocals ret, Jvm.Cond.code ({ cls := "com/example/term_weight_evolver/termweightevolver/constraints/VerdictHoldsPinLaw", name := "pick", desc := "(I)Lcom/example/term_weight_evolver/termweightevolver/constraints/Constraint;" } : Jvm.MethodName) method_2_code (2 : Nat) (Option.some (Jvm.ClassFile.FieldType.object "com/example/term_weight_evolver/termweightevolver/constraints/Constraint")), Jvm.Cond.code ({ cls := "com/example/term_weight_evolver/termweightevolver/constraints/Verdict", name := "<init>", desc := "(Lcom/example/term_weight_evolver/termweightevolver/constraints/Constraint;Lcom/example/term_weight_evolver/termweightevolver/constraints/Probe;)V" } : Jvm.MethodName) prog_6_method_1_code (3 : Nat) (Option.none : Option Jvm.ClassFile.FieldType), Jvm.Cond.code ({ cls := "java/lang/Object", name := "<init>", desc := "()V" } : Jvm.MethodName) object_method_1_code (1 : Nat) (Option.none : Option Jvm.ClassFile.FieldType), Jvm.Cond.code ({ cls := "com/example/term_weight_evolver/termweightevolver/constraints/Verdict", name := "holds", desc := "()Z" } : Jvm.MethodName) prog_6_method_3_code (1 : Nat) (Option.some Jvm.ClassFile.FieldType.boolean), Jvm.Cond.code ({ cls := "com/example/term_weight_evolver/termweightevolver/constraints/Verdict", name := "violation", desc := "()Lcom/example/term_weight_evolver/termweightevolver/constraints/Probe;" } : Jvm.MethodName) prog_6_method_4_code (1 : Nat) (Option.some (Jvm.ClassFile.FieldType.object "com/example/term_weight_evolver/termweightevolver/constraints/Probe")), Jvm.Cond.code ({ cls := "com/example/term_weight_evolver/termweightevolver/constraints/Verdict", name := "constraint", desc := "()Lcom/example/term_weight_evolver/termweightevolver/constraints/Constraint;" } : Jvm.MethodName) prog_6_method_2_code (1 : Nat) (Option.some (Jvm.ClassFile.FieldType.object "com/example/term_weight_evolver/termweightevolver/constraints/Constraint")), Jvm.Cond.code ({ cls := "com/example/term_weight_evolver/termweightevolver/constraints/Probe", name := "<init>", desc := "(IJII)V" } : Jvm.MethodName) prog_5_method_1_code (6 : Nat) (Option.none : Option Jvm.ClassFile.FieldType)]
set_option maxRecDepth 65536 in
theorem codes_eq : words1.filter isCode = codes1 := rfl
theorem w_codes : ∀ c ∈ words1.filter isCode, c.before args0 about1 = true := by
  rw [codes_eq]
  intro c hc
  simp only [codes1, List.mem_cons, List.not_mem_nil, or_false] at hc
  rcases hc with rfl | rfl | rfl | rfl | rfl | rfl | rfl | rfl
  · exact w_c0
  · exact w_c1
  · exact w_c2
  · exact w_c3
  · exact w_c4
  · exact w_c5
  · exact w_c6
  · exact w_c7
set_option maxRecDepth 65536 in
theorem w_t1 : (words1.take 24).all (fun c => isCode c || c.before args0 about1) = true := by decide +kernel
set_option maxRecDepth 65536 in
theorem w_t2 : ((words1.drop 24).take 24).all (fun c => isCode c || c.before args0 about1) = true := by decide +kernel
set_option maxRecDepth 65536 in
theorem w_t3 : ((words1.drop 24).drop 24).all (fun c => isCode c || c.before args0 about1) = true := by decide +kernel
theorem w_tables : (allAtoms (Jvm.Cond.code x code maxLocals ret :: tables_1)).before args0 about1 = true := by
  rw [allAtoms_all]
  show words1.all (fun c => c.before args0 about1) = true
  refine all_split ?_ w_codes
  rw [← List.take_append_drop 24 words1, List.all_append, w_t1, ← List.take_append_drop 24 (words1.drop 24), List.all_append, w_t2, w_t3]
  rfl
set_option maxRecDepth 65536 in
theorem w_case : (Jvm.Cond.and given_1 narrow_1).before args0 about1 = true := by decide +kernel
theorem w_applies : (headSpec (Jvm.Cond.code x code maxLocals ret :: tables_1) room_1).applies x e0.platform about1 = true :=
  (Spec.applies_iff w_frames).mpr ⟨w_running, w_runnable, w_alone, w_named, w_hears, w_ripe, w_room, w_tables⟩
theorem atStart : AtStart classFile x code maxLocals ret World_1 tables_1 room_1 Calls_1 rest_1 Pre_1 launch0 p0 e0 about1 theMethod args0 below0 :=
  ⟨lists_1, trivial, launch0.admits_env _ _ _, launch0.least_env, fairChoices_fair.cas, fairChoices_fair.clock, w_frames, w_args, w_heap, w_applies, trivial, trivial, w_case⟩
end start1
theorem witness_1 : WitnessClaimed_1 := ⟨start1.p0, start1.e0, start1.about1, start1.theMethod, start1.args0, start1.below0, start1.atStart⟩
end Jvm.Pilot.@@N@@
