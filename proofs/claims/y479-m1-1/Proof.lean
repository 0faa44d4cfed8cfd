import JvmDerived
import JvmDerived.Pilot.@@N@@Statement
import JvmDerived.Pilot.@@N@@Code
set_option linter.unusedVariables false
set_option linter.unusedSimpArgs false
namespace Jvm.Pilot.@@N@@
open Jvm Jvm.ClassFile Sem Op Lib Jvm.Free Jvm.Stand Jvm.LawKit Jvm.RoadKit Bundle Jvm.Pilot.@@N@@.Jvm.D
/-! own kit: the walk in continuation form: 'Go': from this point the body comes to its end with what Q says -/
section OwnGo
variable {p : Program} {l : Launch} {e : Env} {R : Room} {s : State} {m : MethodId} {args : Array Value} {below : List Frame} {meth : Method} {c : Code} {T : State} {locs : List Loc} {cells slots : Nat} {Z : State} {a0 : Array Value} {h : Heap} {Q : Option Value → Heap → List Loc → Prop} {C S : Nat} {End : Outcome → State → List Loc → Prop}
def Go (p : Program) (e : Env) (below : List Frame) (End : Outcome → State → List Loc → Prop) (Q : Option Value → Heap → List Loc → Prop) (T : State) (f : JFrame) : Prop :=
  ∃ s₂ o, Steps p.tables e below (T.setTop f) s₂ ∧ s₂.status = .running ∧ Ended s₂ below o ∧ ∃ v L, o = .returned v ∧ Q v s₂.heap L ∧ End o s₂ L
/-- the end of a walk that leaves the table of strings alone, and of one that may not -/
def EndN (s : State) (C S : Nat) : Outcome → State → List Loc → Prop := fun o t L => FrameEnd s o t L C S
def EndW (s : State) (C S : Nat) : Outcome → State → List Loc → Prop := fun o t L => ReturnedEndW s o t L C S
def OwnP (val : Option Value) (h0 : Heap) (n0 : Nat) (v : Option Value) (h : Heap) (L : List Loc) : Prop := v = val ∧ Fr n0 L ∧ h = h0
def OwnR (val : Option Value) (n0 : Nat) (v : Option Value) (h : Heap) (L : List Loc) : Prop := v = val ∧ Fr n0 L
abbrev OwnMet (l : Launch) (Z : State) (y : MethodName) (bytes : ByteArray) (maxL : Nat) (ret : Option FieldType) (ws : List Jvm.Cond) (rm : Room) (as' : Array Value) (h0 : Heap) (Q : Option Value → Heap → List Loc → Prop) : Prop :=
  MetFree l y (head1 (Jvm.Cond.code y bytes maxL ret :: ws) rm) (fun a U => a = as' ∧ Z.Warmed39 U.vm ∧ U.heap = h0) (fun _ _ _ _ _ => True) (fun _ U o U' => ∃ v L, o = .returned v ∧ Q v U'.heap L ∧ FrameEnd U o U' L rm.cells rm.slots)
theorem own_body {y : MethodName} {bytes : ByteArray} {maxL : Nat} {ret : Option FieldType} {ws : List Jvm.Cond} {rm : Room} {as' : Array Value} {h0 : Heap} (hpl : plainFor y = true)
    (k : ∀ (p : Program) (e : Env) (s : State) (m : MethodId) (below : List Frame) (meth : Method) (c : Code) (s₁ : State), Stand p l e rm s m as' below meth c s₁ [] 0 0 → p.tables.exec = Jvm.exec → c.code = bytes → c.maxLocals = maxL → meth.sig.returnType = ret → meth.locks = false → s.vm.findClass y.cls = some m.cls → meth.name = y.name → Z.Warmed39 s.vm → s₁.heap = h0 → s.heap = h0 → Go p e below (EndN s rm.cells rm.slots) Q s₁ (entryFrame m as' maxL)) :
    OwnMet l Z y bytes maxL ret ws rm as' h0 Q := by
  refine MetFree.of_bodySF hpl hisR ?_
  intro p e s m args below meth c s₁ Bd hml0 hP hK
  obtain ⟨rfl, hZ, hh⟩ := hP
  exact k p e s m below meth c s₁ (Stand.of_body Bd) Bd.exec Bd.bytes hml0 Bd.returns Bd.notSynchronized (findClass_of_methodNamed Bd.named) (name_of_methodNamed Bd.named Bd.method).1 hZ (by rw [← hh, Bd.state]; rfl) hh
theorem own_go {T' : State} {f f' : JFrame} (k : ∀ t, Steps p.tables e below (T'.setTop f') t → Steps p.tables e below (T.setTop f) t) (G : Go p e below End Q T' f') : Go p e below End Q T f := by
  obtain ⟨s₂, o, hs, r⟩ := G
  exact ⟨s₂, o, k _ hs, r⟩
theorem own_entry {f : JFrame} {f' : JFrame} (q : f = f') (G : Go p e below End Q T f') : Go p e below End Q T f := q ▸ G
/-- the method can be left here -/
def Leaves (e : Env) (below : List Frame) (m : MethodId) (meth : Method) (T : State) (locs : List Loc) (End : Outcome → State → List Loc → Prop) : Prop :=
  ∀ v : Option Value, (meth.sig.returnType = none → v = none) → ∃ fs, (∀ (f : JFrame) (acts : List Action), f.method = m → f.locked = none → f.entered = [] → (doReturn e (T.setTop f) acts v).1 = T.setFrames fs) ∧ (T.setFrames fs).status = .running ∧ Ended (T.setFrames fs) below (.returned v) ∧ End (.returned v) (T.setFrames fs) locs
theorem own_lvN (X : Stand p l e R s m args below meth c T locs cells slots) (hlk : meth.locks = false) (hC : cells ≤ C) (hS : slots ≤ S) : Leaves e below m meth T locs (EndN s C S) := fun v hv => by
  obtain ⟨fs, hr, hrun, hended, hW, hsame⟩ := X.leave hv hlk
  exact ⟨fs, hr, hrun, hended, ⟨_, rfl⟩, hW, hsame.mono hC hS⟩
theorem own_leave {v : Option Value} (LV : Leaves e below m meth T locs End) (hv : meth.sig.returnType = none → v = none) {f : JFrame}
    (st : ∀ fs, (∀ (f : JFrame) (acts : List Action), f.method = m → f.locked = none → f.entered = [] → (doReturn e (T.setTop f) acts v).1 = T.setFrames fs) → Steps p.tables e below (T.setTop f) (T.setFrames fs))
    (hQ : Q v T.heap locs) : Go p e below End Q T f := by
  obtain ⟨fs, hr, hrun, hended, hE⟩ := LV v hv
  exact ⟨_, _, st fs hr, hrun, hended, _, _, rfl, hQ, hE⟩
theorem own_retN (X : Stand p l e R s m args below meth c T locs cells slots) (hx : p.tables.exec = Jvm.exec) (LV : Leaves e below m meth T locs End) {pc : Nat} {Ls : Array Slot} {z : Int32} {t : FieldType} {rest : List Value} (hret : meth.sig.returnType = some t) (ht : t = .boolean ∨ t = .byte ∨ t = .char ∨ t = .short)
    (hd : decode c.code pc = .ok (.ireturn, 1)) (hQ : Q (some (.int (nar t z))) T.heap locs) : Go p e below End Q T (mkF m pc Ls (.int z :: rest)) :=
  own_leave LV (fun h => by rw [hret] at h; cases h) (fun fs hr => retN X hx hret ht hd hr) hQ
theorem own_retO (X : Stand p l e R s m args below meth c T locs cells slots) (hx : p.tables.exec = Jvm.exec) (LV : Leaves e below m meth T locs End) {pc : Nat} {Ls : Array Slot} {w : Value} {t : FieldType} {i : Instr} {rest : List Value} (hret : meth.sig.returnType = some t) (hn : narrow t w = w)
    (hi : (i = .ireturn ∧ (t = .int ∨ t = .boolean ∨ t = .byte ∨ t = .char ∨ t = .short) ∧ ∃ z, w = .int z) ∨ (i = .lreturn ∧ t = .long ∧ ∃ z, w = .long z) ∨ (i = .dreturn ∧ t = .double ∧ ∃ z, w = .double z) ∨ (i = .freturn ∧ t = .float ∧ ∃ z, w = .float z) ∨ (i = .areturn ∧ t.isReference = true ∧ w.isRef = true))
    (hd : decode c.code pc = .ok (i, 1)) (hQ : Q (some w) T.heap locs) : Go p e below End Q T (mkF m pc Ls (w :: rest)) :=
  own_leave LV (fun h => by rw [hret] at h; cases h) (fun fs hr => retOut X hx hret hn hi hd hr) hQ
theorem own_retI (X : Stand p l e R s m args below meth c T locs cells slots) (hx : p.tables.exec = Jvm.exec) (LV : Leaves e below m meth T locs End) {pc : Nat} {Ls : Array Slot} {z : Int32} {rest : List Value} (hret : meth.sig.returnType = some .int)
    (hd : decode c.code pc = .ok (.ireturn, 1)) (hQ : Q (some (.int z)) T.heap locs) : Go p e below End Q T (mkF m pc Ls (.int z :: rest)) :=
  own_retO X hx LV hret rfl (Or.inl ⟨rfl, Or.inl rfl, z, rfl⟩) hd hQ
theorem own_retL (X : Stand p l e R s m args below meth c T locs cells slots) (hx : p.tables.exec = Jvm.exec) (LV : Leaves e below m meth T locs End) {pc : Nat} {Ls : Array Slot} {z : Int64} {rest : List Value} (hret : meth.sig.returnType = some .long)
    (hd : decode c.code pc = .ok (.lreturn, 1)) (hQ : Q (some (.long z)) T.heap locs) : Go p e below End Q T (mkF m pc Ls (.long z :: rest)) :=
  own_retO X hx LV hret rfl (Or.inr (Or.inl ⟨rfl, rfl, z, rfl⟩)) hd hQ
theorem own_retA (X : Stand p l e R s m args below meth c T locs cells slots) (hx : p.tables.exec = Jvm.exec) (LV : Leaves e below m meth T locs End) {pc : Nat} {Ls : Array Slot} {w : Value} {t : FieldType} {rest : List Value} (hret : meth.sig.returnType = some t) (ht : t.isReference = true) (hw : w.isRef = true)
    (hd : decode c.code pc = .ok (.areturn, 1)) (hQ : Q (some w) T.heap locs) : Go p e below End Q T (mkF m pc Ls (w :: rest)) :=
  own_retO X hx LV hret (by cases t <;> first | (cases w <;> first | rfl | cases hw) | cases ht) (Or.inr (Or.inr (Or.inr (Or.inr ⟨rfl, ht, hw⟩)))) hd hQ
theorem own_retV (X : Stand p l e R s m args below meth c T locs cells slots) (hx : p.tables.exec = Jvm.exec) (LV : Leaves e below m meth T locs End) {pc : Nat} {Ls : Array Slot} (hret : meth.sig.returnType = none)
    (hd : decode c.code pc = .ok (.return_, 1)) (hQ : Q none T.heap locs) : Go p e below End Q T (mkF m pc Ls []) :=
  own_leave LV (fun _ => rfl) (fun fs hr => X.returnOut hx hret hd hr) hQ
/-- a branch: taken where P -/
theorem own_icmpP (P : Prop) [Decidable P] (X : Stand p l e R s m args below meth c T locs cells slots) (hx : p.tables.exec = Jvm.exec) {cd : ClassFile.Cond} {x y : Int32} {rest : List Value} {o : Int} {pc pc' : Nat} {Ls : Array Slot} (hd : decode c.code pc = .ok (.if_icmp cd o, 3)) (hP : if_icmp.holds cd x y = decide P) (ho : 0 ≤ (pc : Int) + o) (hp : ((pc : Int) + o).toNat = pc')
    (h1 : P → Go p e below End Q T (mkF m pc' Ls rest)) (h2 : ¬ P → Go p e below End Q T (mkF m (pc + 3) Ls rest)) : Go p e below End Q T (mkF m pc Ls (.int y :: .int x :: rest)) := by
  by_cases q : P
  · exact own_go (fun t k => XS.icmpYes X.here hx rfl (pc0 := pc) (pc' := pc') rfl hd rfl (by rw [hP]; exact decide_eq_true q) ho hp k) (h1 q)
  · exact own_go (fun t k => XS.icmpNo X.here hx rfl hd rfl (by rw [hP]; exact decide_eq_false q) k) (h2 q)
/-- a branch: taken where not P -/
theorem own_icmpM (P : Prop) [Decidable P] (X : Stand p l e R s m args below meth c T locs cells slots) (hx : p.tables.exec = Jvm.exec) {cd : ClassFile.Cond} {x y : Int32} {rest : List Value} {o : Int} {pc pc' : Nat} {Ls : Array Slot} (hd : decode c.code pc = .ok (.if_icmp cd o, 3)) (hP : if_icmp.holds cd x y = !decide P) (ho : 0 ≤ (pc : Int) + o) (hp : ((pc : Int) + o).toNat = pc')
    (h1 : ¬ P → Go p e below End Q T (mkF m pc' Ls rest)) (h2 : P → Go p e below End Q T (mkF m (pc + 3) Ls rest)) : Go p e below End Q T (mkF m pc Ls (.int y :: .int x :: rest)) := by
  by_cases q : P
  · exact own_go (fun t k => XS.icmpNo X.here hx rfl hd rfl (by rw [hP]; simp [q]) k) (h2 q)
  · exact own_go (fun t k => XS.icmpYes X.here hx rfl (pc0 := pc) (pc' := pc') rfl hd rfl (by rw [hP]; simp [q]) ho hp k) (h1 q)
theorem own_ifP (P : Prop) [Decidable P] (X : Stand p l e R s m args below meth c T locs cells slots) (hx : p.tables.exec = Jvm.exec) {cd : ClassFile.Cond} {x : Int32} {rest : List Value} {o : Int} {pc pc' : Nat} {Ls : Array Slot} (hd : decode c.code pc = .ok (.ifCond cd o, 3)) (hP : if_icmp.holds cd x 0 = decide P) (ho : 0 ≤ (pc : Int) + o) (hp : ((pc : Int) + o).toNat = pc')
    (h1 : P → Go p e below End Q T (mkF m pc' Ls rest)) (h2 : ¬ P → Go p e below End Q T (mkF m (pc + 3) Ls rest)) : Go p e below End Q T (mkF m pc Ls (.int x :: rest)) := by
  by_cases q : P
  · exact own_go (fun t k => XS.ifYes X.here hx rfl (pc0 := pc) (pc' := pc') rfl hd rfl (by rw [if0, hP]; exact decide_eq_true q) ho hp k) (h1 q)
  · exact own_go (fun t k => XS.ifNo X.here hx rfl hd rfl (by rw [if0, hP]; exact decide_eq_false q) k) (h2 q)
theorem own_ifM (P : Prop) [Decidable P] (X : Stand p l e R s m args below meth c T locs cells slots) (hx : p.tables.exec = Jvm.exec) {cd : ClassFile.Cond} {x : Int32} {rest : List Value} {o : Int} {pc pc' : Nat} {Ls : Array Slot} (hd : decode c.code pc = .ok (.ifCond cd o, 3)) (hP : if_icmp.holds cd x 0 = !decide P) (ho : 0 ≤ (pc : Int) + o) (hp : ((pc : Int) + o).toNat = pc')
    (h1 : ¬ P → Go p e below End Q T (mkF m pc' Ls rest)) (h2 : P → Go p e below End Q T (mkF m (pc + 3) Ls rest)) : Go p e below End Q T (mkF m pc Ls (.int x :: rest)) := by
  by_cases q : P
  · exact own_go (fun t k => XS.ifNo X.here hx rfl hd rfl (by rw [if0, hP]; simp [q]) k) (h2 q)
  · exact own_go (fun t k => XS.ifYes X.here hx rfl (pc0 := pc) (pc' := pc') rfl hd rfl (by rw [if0, hP]; simp [q]) ho hp k) (h1 q)
theorem own_eq (x y : Int32) : if_icmp.holds .eq x y = decide (x = y) := by by_cases q : x = y <;> simp [if_icmp.holds, q]
theorem own_ne (x y : Int32) : if_icmp.holds .ne x y = !decide (x = y) := by by_cases q : x = y <;> simp [if_icmp.holds, q]
theorem own_lt (x y : Int32) : if_icmp.holds .lt x y = decide (x < y) := by by_cases q : x < y <;> simp [if_icmp.holds, q]
theorem own_ge (x y : Int32) : if_icmp.holds .ge x y = !decide (x < y) := by
  by_cases q : x < y
  · rw [(tlt q).2.1]; simp [q]
  · rw [(flt q).2.1]; simp [q]
theorem own_gt (x y : Int32) : if_icmp.holds .gt x y = decide (y < x) := by
  by_cases q : y < x
  · rw [(tlt q).2.2.1]; simp [q]
  · rw [(flt q).2.2.1]; simp [q]
theorem own_le (x y : Int32) : if_icmp.holds .le x y = !decide (y < x) := by
  by_cases q : y < x
  · rw [(tlt q).2.2.2]; simp [q]
  · rw [(flt q).2.2.2]; simp [q]
theorem own_acmp (P : Prop) [Decidable P] (X : Stand p l e R s m args below meth c T locs cells slots) (hx : p.tables.exec = Jvm.exec) {cd : ACond} {x y : Value} {rest : List Value} {o : Int} {pc : Nat} {Ls : Array Slot} (h1 : x.isRef = true) (h2 : y.isRef = true) (hP : (x = y) ↔ P) (hd : decode c.code pc = .ok (.if_acmp cd o, 3)) (ho : 0 ≤ (pc : Int) + o) {pcE pcN : Nat}
    (hE : pcE = if acV cd true = true then ((pc : Int) + o).toNat else pc + 3) (hN : pcN = if acV cd false = true then ((pc : Int) + o).toNat else pc + 3)
    (k1 : P → Go p e below End Q T (mkF m pcE Ls rest)) (k2 : ¬ P → Go p e below End Q T (mkF m pcN Ls rest)) : Go p e below End Q T (mkF m pc Ls (y :: x :: rest)) := by
  by_cases q : P
  · exact own_go (fun t k => Jvm.RoadKit.acmp (g := mkF m pc Ls (y :: x :: rest)) X hx rfl h1 h2 (pc0 := pc) (pc' := pcE) (same := true) rfl hd rfl (decide_eq_true (hP.mpr q)) ho hE k) (k1 q)
  · exact own_go (fun t k => Jvm.RoadKit.acmp (g := mkF m pc Ls (y :: x :: rest)) X hx rfl h1 h2 (pc0 := pc) (pc' := pcN) (same := false) rfl hd rfl (decide_eq_false fun z => q (hP.mp z)) ho hN k) (k2 q)
theorem own_ref (a b : Addr) : (Value.ref a = Value.ref b) ↔ (a = b) := ⟨Value.ref.inj, congrArg Value.ref⟩
theorem own_callS (X : Stand p l e R s m args below meth c T locs cells slots) (hx : p.tables.exec = Jvm.exec) (hZ : Z.Warmed39 s.vm) {own : String} {index : Nat} {y : MethodName} {bytes : ByteArray} {maxL : Nat} {ret : Option FieldType} {rm : Room} {as' : Array Value} {Qc : Option Value → Heap → List Loc → Prop}
    (hown : s.vm.findClass own = some m.cls) (wl : (Cond.methodLink own index y).before a0 Z = true) (wst : (Cond.static y).before a0 Z = true) (wi : (Cond.initialized y.cls).before a0 Z = true) (wc : (Cond.code y bytes maxL ret).before a0 Z = true)
    (hy : y.cls ≠ "java/lang/invoke/MethodHandle" ∧ y.cls ≠ "java/lang/invoke/VarHandle")
    (hM : MetFree l y (head1 [Cond.code y bytes maxL ret] rm) (fun a U => a = as' ∧ Z.Warmed39 U.vm ∧ U.heap = h) (fun _ _ _ _ _ => True) (fun _ U o U' => ∃ v L, o = .returned v ∧ Qc v U'.heap L ∧ FrameEnd U o U' L rm.cells rm.slots))
    (eT : T.heap = h) {pc : Nat} {Ls : Array Slot} (hsize : Ls.size = c.maxLocals) {argsL rest stk : List Value} (hst : stk = argsL.reverse ++ rest) (ha : argsL.toArray = as') (hlen : ∀ sig, parseMethodDescriptor y.desc = some sig → argsL.length = sig.parameters.length) {W : Nat} (hW : (rest.map fun v => v.category).sum ≤ W)
    (hf : rm.frames + 1 ≤ R.frames) (hl : W + (maxL + 11) + rm.locals ≤ R.locals) (hd : decode c.code pc = .ok (.invokestatic index, 3)) (hc : cells + rm.cells ≤ R.cells) (hs : slots + rm.slots ≤ R.slots)
    (k : ∀ (v : Option Value) (T' : State) (L : List Loc), Stand p l e R s m args below meth c T' (locs ++ L) (cells + rm.cells) (slots + rm.slots) → Qc v T'.heap L → Go p e below End Q T' (mkF m (pc + 3) Ls (v.toList ++ rest))) :
    Go p e below End Q T (mkF m pc Ls stk) := by
  subst hst
  obtain ⟨v, _, ⟨T', L', k', n'⟩, -, X', ⟨Lc, hQ, l1, y1, z1⟩, st⟩ := Jvm.LawKit.callS X hx (y := y) hown (mvT hZ wl) (mvT hZ wst) (mvT hZ wi) (mvT hZ wc) hy (backOf (W := W) hM hZ wc wi hf hl) (g := mkF m pc Ls (argsL.reverse ++ rest)) rfl hsize (argsL := argsL) (rest := rest) hlen rfl (by show 2 * 0 + _ ≤ _; rw [Nat.mul_zero, Nat.zero_add]; exact hW) hd (fun _ _ => ⟨ha, eT, hc, hs⟩)
  dsimp only [Pt.U, Pt.locs, Pt.cells, Pt.slots] at X' l1 y1 z1 st hQ
  subst l1 y1 z1
  exact own_go (fun t q => st _ q) (k v T' Lc X' hQ)
theorem own_callV (X : Stand p l e R s m args below meth c T locs cells slots) (hx : p.tables.exec = Jvm.exec) (hZ : Z.Warmed39 s.vm) {own Cn : String} {index : Nat} {y : MethodName} {bytes : ByteArray} {maxL : Nat} {ret : Option FieldType} {rm : Room} {as' : Array Value} {Qc : Option Value → Heap → List Loc → Prop}
    (hown : s.vm.findClass own = some m.cls) (wl : (Cond.methodLink own index y).before a0 Z = true) (wd : (Cond.declares y).before a0 Z = true) (wsel : (Cond.selects Cn y y).before a0 Z = true) (win : (Cond.instanceMethod y).before a0 Z = true) (wc : (Cond.code y bytes maxL ret).before a0 Z = true) (wi : (Cond.initialized y.cls).before a0 Z = true)
    (hy : y.cls ≠ "java/lang/invoke/MethodHandle" ∧ y.cls ≠ "java/lang/invoke/VarHandle")
    (hM : MetFree l y (head1 [Cond.code y bytes maxL ret] rm) (fun a U => a = as' ∧ Z.Warmed39 U.vm ∧ U.heap = h) (fun _ _ _ _ _ => True) (fun _ U o U' => ∃ v L, o = .returned v ∧ Qc v U'.heap L ∧ FrameEnd U o U' L rm.cells rm.slots))
    (eT : T.heap = h) {b : Addr} (E : Exa Z h b Cn) {pc : Nat} {Ls : Array Slot} (hsize : Ls.size = c.maxLocals) {argsL rest stk : List Value} (hst : stk = argsL.reverse ++ .ref b :: rest) (ha : (.ref b :: argsL).toArray = as') (hlen : ∀ sig, parseMethodDescriptor y.desc = some sig → argsL.length = sig.parameters.length) {W : Nat} (hW : (rest.map fun v => v.category).sum ≤ W)
    (hf : rm.frames + 1 ≤ R.frames) (hl : W + (maxL + 11) + rm.locals ≤ R.locals) (hd : decode c.code pc = .ok (.invokevirtual index, 3)) (hc : cells + rm.cells ≤ R.cells) (hs : slots + rm.slots ≤ R.slots)
    (k : ∀ (v : Option Value) (T' : State) (L : List Loc), Stand p l e R s m args below meth c T' (locs ++ L) (cells + rm.cells) (slots + rm.slots) → Qc v T'.heap L → Go p e below End Q T' (mkF m (pc + 3) Ls (v.toList ++ rest))) :
    Go p e below End Q T (mkF m pc Ls stk) := by
  subst hst
  obtain ⟨cq, kq, qa, qb, qc⟩ := isOf hZ eT E
  obtain ⟨v, _, ⟨T', L', k', n'⟩, -, X', ⟨Lc, hQ, l1, y1, z1⟩, st⟩ := X.virtualBack hx (y := y) (z := y) hown (mvT hZ wl) (mvT hZ wd) (notFace_of_selects (args := #[]) (mvT hZ wsel)) (mvT hZ wsel) (mvT hZ win) hy (backOf (W := W) hM hZ wc wi hf hl) qa qc (g := mkF m pc Ls (argsL.reverse ++ .ref b :: rest)) rfl hsize (Steps.refl _) (argsL := argsL) (rest := rest) hlen rfl (by show 2 * 0 + _ ≤ _; rw [Nat.mul_zero, Nat.zero_add]; exact hW) hd (fun _ _ => ⟨ha, eT, hc, hs⟩)
  dsimp only [Pt.U, Pt.locs, Pt.cells, Pt.slots] at X' l1 y1 z1 st hQ
  subst l1 y1 z1
  exact own_go (fun t q => st.trans q) (k v T' Lc X' hQ)
theorem own_callU (X : Stand p l e R s m args below meth c T locs cells slots) (hx : p.tables.exec = Jvm.exec) (hZ : Z.Warmed39 s.vm) {own Cn owner : String} {index : Nat} {y z : MethodName} {bytes : ByteArray} {maxL : Nat} {ret : Option FieldType} {rm : Room} {as' : Array Value} {Qc : Option Value → Heap → List Loc → Prop}
    (hown : s.vm.findClass own = some m.cls) (wl : (Cond.methodLink own index y).before a0 Z = true) (wsm : (Cond.sameMethod y.cls owner y.name y.desc).before a0 Z = true) (wd : (Cond.declares ⟨owner, y.name, y.desc⟩).before a0 Z = true) (wsel : (Cond.selects Cn y z).before a0 Z = true) (win : (Cond.instanceMethod z).before a0 Z = true) (wc : (Cond.code z bytes maxL ret).before a0 Z = true) (wi : (Cond.initialized z.cls).before a0 Z = true)
    (hy : owner ≠ "java/lang/invoke/MethodHandle" ∧ owner ≠ "java/lang/invoke/VarHandle")
    (hM : MetFree l z (head1 [Cond.code z bytes maxL ret] rm) (fun a U => a = as' ∧ Z.Warmed39 U.vm ∧ U.heap = h) (fun _ _ _ _ _ => True) (fun _ U o U' => ∃ v L, o = .returned v ∧ Qc v U'.heap L ∧ FrameEnd U o U' L rm.cells rm.slots))
    (eT : T.heap = h) {b : Addr} (E : Exa Z h b Cn) {pc : Nat} {Ls : Array Slot} (hsize : Ls.size = c.maxLocals) {argsL rest stk : List Value} (hst : stk = argsL.reverse ++ .ref b :: rest) (ha : (.ref b :: argsL).toArray = as') (hlen : ∀ sig, parseMethodDescriptor y.desc = some sig → argsL.length = sig.parameters.length) {W : Nat} (hW : (rest.map fun v => v.category).sum ≤ W)
    (hf : rm.frames + 1 ≤ R.frames) (hl : W + (maxL + 11) + rm.locals ≤ R.locals) (hd : decode c.code pc = .ok (.invokevirtual index, 3)) (hc : cells + rm.cells ≤ R.cells) (hs : slots + rm.slots ≤ R.slots)
    (k : ∀ (v : Option Value) (T' : State) (L : List Loc), Stand p l e R s m args below meth c T' (locs ++ L) (cells + rm.cells) (slots + rm.slots) → Qc v T'.heap L → Go p e below End Q T' (mkF m (pc + 3) Ls (v.toList ++ rest))) :
    Go p e below End Q T (mkF m pc Ls stk) := by
  subst hst
  obtain ⟨cq, kq, qa, qb, qc⟩ := isOf hZ eT E
  obtain ⟨v, _, ⟨T', L', k', n'⟩, -, X', ⟨Lc, hQ, l1, y1, z1⟩, st⟩ := X.virtualBackUp hx (x := y) (y := z) hown (mvT hZ wl) (mvT hZ wsm) (mvT hZ wd) hy (mvT hZ wsel) (mvT hZ win) (backOf (W := W) hM hZ wc wi hf hl) qa qc (g := mkF m pc Ls (argsL.reverse ++ .ref b :: rest)) rfl hsize (Steps.refl _) (argsL := argsL) (rest := rest) hlen rfl (by show 2 * 0 + _ ≤ _; rw [Nat.mul_zero, Nat.zero_add]; exact hW) hd (fun _ _ => ⟨ha, eT, hc, hs⟩)
  dsimp only [Pt.U, Pt.locs, Pt.cells, Pt.slots] at X' l1 y1 z1 st hQ
  subst l1 y1 z1
  exact own_go (fun t q => st.trans q) (k v T' Lc X' hQ)
theorem own_callI (X : Stand p l e R s m args below meth c T locs cells slots) (hx : p.tables.exec = Jvm.exec) (hZ : Z.Warmed39 s.vm) {own : String} {index : Nat} {y : MethodName} {bytes : ByteArray} {maxL : Nat} {rm : Room} {as' : Array Value} {Qc : Option Value → Heap → List Loc → Prop} (hy1 : y.name = "<init>")
    (hown : s.vm.findClass own = some m.cls) (wl : (Cond.methodLink own index y).before a0 Z = true) (win : (Cond.instanceMethod y).before a0 Z = true) (wc : (Cond.code y bytes maxL none).before a0 Z = true) (wi : (Cond.initialized y.cls).before a0 Z = true)
    (hy : y.cls ≠ "java/lang/invoke/MethodHandle" ∧ y.cls ≠ "java/lang/invoke/VarHandle")
    (hM : MetFree l y (head1 [Cond.code y bytes maxL none] rm) (fun a U => a = as' ∧ Z.Warmed39 U.vm ∧ U.heap = h) (fun _ _ _ _ _ => True) (fun _ U o U' => ∃ v L, o = .returned v ∧ Qc v U'.heap L ∧ FrameEnd U o U' L rm.cells rm.slots))
    (eT : T.heap = h) {b : Addr} {pc : Nat} {Ls : Array Slot} (hsize : Ls.size = c.maxLocals) {argsL rest stk : List Value} (hst : stk = argsL.reverse ++ .ref b :: rest) (ha : (.ref b :: argsL).toArray = as') (hlen : ∀ sig, parseMethodDescriptor y.desc = some sig → argsL.length = sig.parameters.length) {W : Nat} (hW : (rest.map fun v => v.category).sum ≤ W)
    (hf : rm.frames + 1 ≤ R.frames) (hl : W + (maxL + 11) + rm.locals ≤ R.locals) (hd : decode c.code pc = .ok (.invokespecial index, 3)) (hc : cells + rm.cells ≤ R.cells) (hs : slots + rm.slots ≤ R.slots)
    (k : ∀ (v : Option Value) (T' : State) (L : List Loc), Stand p l e R s m args below meth c T' (locs ++ L) (cells + rm.cells) (slots + rm.slots) → Qc v T'.heap L → Go p e below End Q T' (mkF m (pc + 3) Ls (v.toList ++ rest))) :
    Go p e below End Q T (mkF m pc Ls stk) := by
  subst hst
  obtain ⟨v, _, ⟨T', L', k', n'⟩, -, X', ⟨Lc, hQ, l1, y1, z1⟩, st⟩ := X.specialBack hx (y := y) hy1 hown (mvT hZ wl) (mvT hZ win) (mvT hZ wc) hy (backOf (W := W) hM hZ wc wi hf hl) (g := mkF m pc Ls (argsL.reverse ++ .ref b :: rest)) rfl hsize (Steps.refl _) (a := b) (argsL := argsL) (rest := rest) hlen rfl (by show 2 * 0 + _ ≤ _; rw [Nat.mul_zero, Nat.zero_add]; exact hW) hd (fun _ _ => ⟨ha, eT, hc, hs⟩)
  dsimp only [Pt.U, Pt.locs, Pt.cells, Pt.slots] at X' l1 y1 z1 st hQ
  subst l1 y1 z1
  exact own_go (fun t q => st.trans q) (k v T' Lc X' hQ)
theorem own_eqI {ar : Array Value} {t : Term} {k : Int32} (hx : (Cond.eq t (.int k)).value ar Z none Z [] = some true) : t.eval ar Z none [] Z = some (.int k) := by
  obtain ⟨x, y, e1, e2, k1, -⟩ := cmp_v (Or.inl hx)
  have e3 : y = .int k := Option.some.inj (e2.symm.trans (Term.int_eval k))
  subst e3
  cases x with
  | int z =>
    have := gotT (Cond.eq_ints e1 e2) hx
    subst this
    exact e1
  | _ => simp [Kin, Value.isRef] at k1
theorem own_fld {ar : Array Value} {t : Term} {w : Addr} {O n d : String} {k : Int32} (ev : t.eval ar Z none [] Z = some (.ref w)) (hx : (Cond.eq (.field t O n d) (.int k)).value ar Z none Z [] = some true) : Fld Z Z.heap w O n d (.int k) :=
  Fld.start ((fld_at (C := O) (n := n) (dd := d) ev).symm.trans (own_eqI hx))
theorem own_len {ar : Array Value} {t : Term} {a : Addr} {cl : Cell} {k : Int32} {n : Nat} (ev : t.eval ar Z none [] Z = some (.ref a)) (hat : Z.arrayAt? a = some cl) (hL : (Cond.eq (.length t) (.int k)).value ar Z none Z [] = some true) (hk : k.toInt = n) : cl.slots.size = n ∧ cl.slots.size < 2 ^ 31 := by
  by_cases hs : cl.slots.size < 2 ^ 31
  · have e1 := len_f (t := t) ev hat hs
    have e2 := own_eqI hL
    have e3 : cl.slots.size.toInt32 = k := Value.int.inj (Option.some.inj (e1.symm.trans e2))
    have e4 := len_toInt hs
    rw [e3, hk] at e4
    exact ⟨by omega, hs⟩
  · have e2 := own_eqI hL
    simp [Term.eval, ev, hat, hs] at e2
theorem own_ne_fld {a b : Addr} {Cn n d : String} {v w : Value} (F : Fld Z h a Cn n d v) (G : Fld Z h b Cn n d w) (hn : v ≠ w) : ¬ a = b := by
  rintro rfl
  obtain ⟨c1, cf1, k1, i1, f1, h1, h2, -, -, -, -, h7⟩ := F
  obtain ⟨c2, cf2, k2, i2, f2, g1, g2, -, -, -, -, g7⟩ := G
  cases h1.symm.trans g1
  cases h2.symm.trans g2
  cases h7.symm.trans g7
  exact hn rfl
theorem own_sta_keep {h h' : Heap} {ws : List Addr} {Cn n d : String} {v : Value} (F : Sta Z h Cn n d v) (K : Keep h h' ws) (hws : ∀ a ∈ ws, ∃ C', Exa Z h a C') : Sta Z h' Cn n d v := by
  obtain ⟨cf, i, k, f, st, cell, h1, h2, h3, h4, h5, h6, h7⟩ := F
  refine ⟨cf, i, k, f, st, cell, h1, h2, h3, h4, K.2.1 st cell h5 (fun q => ?_), h6, h7⟩
  obtain ⟨C', cell', k', e1, -, -, e4, -⟩ := hws st q
  cases h5.symm.trans e1
  rw [h6] at e4; cases e4
/-- the class named c has no superclass named K (itself neither) -/
def OwnNsub (Z : State) (c K : String) : Prop := ∀ (ci ki : ClassId), Z.vm.findClass c = some ci → Z.vm.findClass K = some ki → ∀ fuel, Z.vm.isSubclassAux fuel ci ki = false
theorem own_id_ne {c K : String} {ci ki : ClassId} (h1 : Z.vm.findClass c = some ci) (h2 : Z.vm.findClass K = some ki) (hn : c ≠ K) : (ci == ki) = false := by
  rw [beq_eq_false_iff_ne]
  rintro rfl
  obtain ⟨k1, a1, b1⟩ := Vm.findClass_spec h1
  obtain ⟨k2, a2, b2⟩ := Vm.findClass_spec h2
  cases a1.symm.trans a2
  exact hn (b1.symm.trans b2)
theorem own_nsub_root {c K : String} (w : (Cond.noSuperclass c).before a0 Z = true) (hn : c ≠ K) : OwnNsub Z c K := by
  intro ci ki h1 h2 fuel
  cases fuel with
  | zero => rfl
  | succ n =>
    obtain ⟨k1, a1, b1⟩ := Vm.findClass_spec h1
    have hs := Cond.noSuperclass_root w ci k1 h1 a1
    simp [Vm.isSubclassAux, own_id_ne h1 h2 hn, a1, hs]
theorem own_nsub_up {c d K : String} (w : (Cond.superclass c d).before a0 Z = true) (hn : c ≠ K) (N : OwnNsub Z d K) : OwnNsub Z c K := by
  intro ci ki h1 h2 fuel
  cases fuel with
  | zero => rfl
  | succ n =>
    obtain ⟨pi, k, kp, g1, g2, g3, g4, -⟩ := Cond.superclass_spec h1 w
    simp [Vm.isSubclassAux, own_id_ne h1 h2 hn, g2, g4, N pi ki g1 h2 n]
theorem own_nins {a : Addr} {c d K : String} {kk : Nat} (E : Exa Z h a c) (wi : (Cond.instantiable K kk).before a0 Z = true) (wsup : (Cond.superclass c d).before a0 Z = true) (hn : c ≠ K) (N : OwnNsub Z c K) : Ins Z h a K false := by
  obtain ⟨cell, k, h1, h2, h3, h4, -⟩ := E
  obtain ⟨ki, kt, i1, i2, i3, i4, -⟩ := Cond.instantiable_spec wi
  obtain ⟨pi, k', kp, g1, g2, g3, g4, g5, -⟩ := Cond.superclass_spec h2 wsup
  cases h3.symm.trans g2
  refine ⟨cell, ki, h1, i1, ?_⟩
  have hif : kt.isInterface = false := by simp only [Bool.or_eq_false_iff] at i4; exact i4.1
  simp [h4, Vm.assignable, Vm.assignableAux, own_id_ne h2 i1 hn, h3, i2, g5, i3, hif, Vm.isSubclass, N cell.cls ki h2 i1]
end OwnGo
theorem own_int {i j : Int32} (h : i.toInt = j.toInt) : i = j := Int32.toInt_inj.mp h
theorem own_and3 (x : Int32) : (x &&& (3 : Int32)) = 0 ∨ (x &&& (3 : Int32)) = 1 ∨ (x &&& (3 : Int32)) = 2 ∨ (x &&& (3 : Int32)) = 3 := by
  have h := c_and x (3 : Int32) (by decide)
  have h3 : (3 : Int32).toInt = 3 := by decide
  rw [h3] at h
  generalize (x &&& (3 : Int32)) = i at h
  have q : i.toInt = 0 ∨ i.toInt = 1 ∨ i.toInt = 2 ∨ i.toInt = 3 := by omega
  rcases q with q | q | q | q
  · exact Or.inl (own_int q)
  · exact Or.inr (Or.inl (own_int q))
  · exact Or.inr (Or.inr (Or.inl (own_int q)))
  · exact Or.inr (Or.inr (Or.inr (own_int q)))
theorem own_and1 (x : Int32) : (x &&& (1 : Int32)) = 0 ∨ (x &&& (1 : Int32)) = 1 := by
  have h := c_and x (1 : Int32) (by decide)
  have h3 : (1 : Int32).toInt = 1 := by decide
  rw [h3] at h
  generalize (x &&& (1 : Int32)) = i at h
  have q : i.toInt = 0 ∨ i.toInt = 1 := by omega
  rcases q with q | q
  · exact Or.inl (own_int q)
  · exact Or.inr (own_int q)
theorem own_rem6 (x : Int32) : ((x &&& (2147483647 : Int32)) % (6 : Int32)) = 0 ∨ ((x &&& (2147483647 : Int32)) % (6 : Int32)) = 1 ∨ ((x &&& (2147483647 : Int32)) % (6 : Int32)) = 2 ∨ ((x &&& (2147483647 : Int32)) % (6 : Int32)) = 3 ∨ ((x &&& (2147483647 : Int32)) % (6 : Int32)) = 4 ∨ ((x &&& (2147483647 : Int32)) % (6 : Int32)) = 5 := by
  have h := (c_and x (2147483647 : Int32) (by decide)).1
  generalize (x &&& (2147483647 : Int32)) = y at h
  have h2 := (c_irem y (6 : Int32) 6 (by decide)).1 h
  generalize (y % (6 : Int32)) = i at h2
  have q : i.toInt = 0 ∨ i.toInt = 1 ∨ i.toInt = 2 ∨ i.toInt = 3 ∨ i.toInt = 4 ∨ i.toInt = 5 := by omega
  rcases q with q | q | q | q | q | q
  · exact Or.inl (own_int q)
  · exact Or.inr (Or.inl (own_int q))
  · exact Or.inr (Or.inr (Or.inl (own_int q)))
  · exact Or.inr (Or.inr (Or.inr (Or.inl (own_int q))))
  · exact Or.inr (Or.inr (Or.inr (Or.inr (Or.inl (own_int q)))))
  · exact Or.inr (Or.inr (Or.inr (Or.inr (Or.inr (own_int q)))))
theorem own_rem5 (x : Int32) : ((x &&& (2147483647 : Int32)) % (5 : Int32)) = 0 ∨ ((x &&& (2147483647 : Int32)) % (5 : Int32)) = 1 ∨ ((x &&& (2147483647 : Int32)) % (5 : Int32)) = 2 ∨ ((x &&& (2147483647 : Int32)) % (5 : Int32)) = 3 ∨ ((x &&& (2147483647 : Int32)) % (5 : Int32)) = 4 := by
  have h := (c_and x (2147483647 : Int32) (by decide)).1
  generalize (x &&& (2147483647 : Int32)) = y at h
  have h2 := (c_irem y (5 : Int32) 5 (by decide)).1 h
  generalize (y % (5 : Int32)) = i at h2
  have q : i.toInt = 0 ∨ i.toInt = 1 ∨ i.toInt = 2 ∨ i.toInt = 3 ∨ i.toInt = 4 := by omega
  rcases q with q | q | q | q | q
  · exact Or.inl (own_int q)
  · exact Or.inr (Or.inl (own_int q))
  · exact Or.inr (Or.inr (Or.inl (own_int q)))
  · exact Or.inr (Or.inr (Or.inr (Or.inl (own_int q))))
  · exact Or.inr (Or.inr (Or.inr (Or.inr (own_int q))))
theorem own_and2 (x : Int32) : (x &&& (2 : Int32)) = 0 ∨ (x &&& (2 : Int32)) = 2 := by
  have h : (x &&& (2 : Int32)) = (x &&& (3 : Int32)) &&& (2 : Int32) := by rw [Int32.and_assoc]; rfl
  rw [h]
  rcases own_and3 x with q | q | q | q <;> rw [q] <;> decide

def OwnBA (Z : State) (h : Heap) (a : Addr) (xs : List Int32) : Prop := xs.length ≤ 8 ∧ ∃ k, Arv Z h a k .byte (Int32.ofNat xs.length) (xs.map Value.int) (.int 0)
section OwnB
variable {p : Program} {l : Launch} {e : Env} {R : Room} {s : State} {m : MethodId} {args : Array Value} {below : List Frame} {meth : Method} {c : Code} {T : State} {locs : List Loc} {cells slots : Nat} {Z : State} {a0 : Array Value} {h h' : Heap} {Q : Option Value → Heap → List Loc → Prop} {End : Outcome → State → List Loc → Prop} {a : Addr} {xs : List Int32} {ws : List Addr}
theorem OwnBA.lt (F : OwnBA Z h a xs) : a < h.size := by obtain ⟨-, k, A⟩ := F; exact A.lt
theorem OwnBA.ext (F : OwnBA Z h a xs) (E : Ext h h') : OwnBA Z h' a xs := by obtain ⟨q, k, A⟩ := F; exact ⟨q, k, A.ext E⟩
theorem OwnBA.keep (F : OwnBA Z h a xs) (K : Keep h h' ws) (q : a ∉ ws) : OwnBA Z h' a xs := by obtain ⟨r, k, A⟩ := F; exact ⟨r, k, A.keep K q⟩
theorem own_nat (i : Nat) (hi : i < 2147483648) : (Int32.ofNat i).toInt = i := Int32.toInt_ofNat_of_lt hi
theorem own_nati (i : Nat) (hi : i < 2147483648) : (Int32.ofNat i).toNatClampNeg = i := by
  have q : (Int32.ofNat i).toNatClampNeg = (Int32.ofNat i).toInt.toNat := rfl
  rw [q, own_nat i hi]; rfl
theorem own_alen (X : Stand p l e R s m args below meth c T locs cells slots) (hx : p.tables.exec = Jvm.exec) (hZ : Z.Warmed39 s.vm) (eT : T.heap = h) (F : OwnBA Z h a xs) {pc : Nat} {Ls : Array Slot} {rest : List Value} (hd : decode c.code pc = .ok (.arraylength, 1))
    (G : Go p e below End Q T (mkF m (pc + 1) Ls (.int (Int32.ofNat xs.length) :: rest))) : Go p e below End Q T (mkF m pc Ls (.ref a :: rest)) := by
  obtain ⟨q, k, cl, Ar, q1, S, N, H, G'⟩ := F
  refine own_go (fun t k => X.arraylength hx (by rw [eT]; exact Ar.1) (State.isArrayOf_alike hZ.alike Ar.2.1) (g := mkF m pc Ls (.ref a :: rest)) rfl rfl hd _ k) ?_
  rw [len_of S N]
  exact G
theorem own_bload (X : Stand p l e R s m args below meth c T locs cells slots) (hx : p.tables.exec = Jvm.exec) (hZ : Z.Warmed39 s.vm) (eT : T.heap = h) (F : OwnBA Z h a xs) {pc i : Nat} {j : Int32} (hj : j = Int32.ofNat i) (hi : i < xs.length) {Ls : Array Slot} {rest : List Value} (hd : decode c.code pc = .ok (.baload, 1))
    (G : Go p e below End Q T (mkF m (pc + 1) Ls (.int (xs.getD i 0) :: rest))) : Go p e below End Q T (mkF m pc Ls (.int j :: .ref a :: rest)) := by
  obtain ⟨q, k, cl, Ar, q1, S, N, H, G'⟩ := F
  have hij : j.toNatClampNeg = i := by rw [hj]; exact own_nati i (by omega)
  have hsz : cl.slots.size = xs.length := by rw [S]; exact own_nati _ (by omega)
  have hin : ¬ (j < 0 ∨ cl.slots.size ≤ j.toNatClampNeg) := by
    rw [hij, hsz, hj, Int32.lt_iff_toInt_lt, own_nat i (by omega)]
    have k0 : (0 : Int32).toInt = 0 := by decide
    rw [k0]; omega
  have hat : cl.slots[j.toNatClampNeg]? = some (.int (xs.getD i 0)) := by
    rw [hij, H i (by omega)]
    congr 1
    rw [List.getD_eq_getElem?_getD, List.getElem?_map, List.getD_eq_getElem?_getD, List.getElem?_eq_getElem hi]
    rfl
  refine own_go (fun t k => X.baloadBytes hx (j := j) (v := .int (xs.getD i 0)) (by rw [eT]; exact Ar.1) (State.isArrayOf_alike hZ.alike Ar.2.1) Ar.2.2 hin hat (g := mkF m pc Ls (.int j :: .ref a :: rest)) rfl rfl hd _ k) ?_
  exact G
end OwnB
def own_at (xs ys : List Int32) (i : Nat) : Prop := i + ys.length ≤ xs.length ∧ ∀ j, j < ys.length → xs.getD (i + j) 0 = ys.getD j 0
def own_mt (xs ys : List Int32) (i : Nat) : Bool := decide (i + ys.length ≤ xs.length) && (List.range ys.length).all (fun j => decide (xs.getD (i + j) 0 = ys.getD j 0))
theorem own_mt_iff (xs ys : List Int32) (i : Nat) : own_mt xs ys i = true ↔ own_at xs ys i := by
  unfold own_mt own_at
  rw [Bool.and_eq_true, decide_eq_true_eq, List.all_eq_true]
  constructor
  · rintro ⟨h1, h2⟩; exact ⟨h1, fun j hj => of_decide_eq_true (h2 j (List.mem_range.mpr hj))⟩
  · rintro ⟨h1, h2⟩; exact ⟨h1, fun j hj => decide_eq_true (h2 j (List.mem_range.mp hj))⟩
def own_holds (xs ys : List Int32) : Int32 := if (List.range (xs.length + 1)).any (own_mt xs ys) = true then 1 else 0
theorem own_holds1 {xs ys : List Int32} {i : Nat} (h : own_at xs ys i) : own_holds xs ys = 1 := by
  refine if_pos (List.any_eq_true.mpr ⟨i, List.mem_range.mpr ?_, (own_mt_iff xs ys i).mpr h⟩)
  have := h.1; omega
theorem own_holds0 {xs ys : List Int32} (h : ∀ i, ¬ own_at xs ys i) : own_holds xs ys = 0 := by
  refine if_neg fun q => ?_
  obtain ⟨i, -, hi⟩ := List.any_eq_true.mp q
  exact h i ((own_mt_iff xs ys i).mp hi)
def own_m1 (xs ys : List Int32) (i : Nat) : Int32 := if own_mt xs ys i = true then 1 else 0
def own_eqk (xs ys : List Int32) (i k : Nat) : Int32 := if ys.length ≤ k then 1 else if xs.getD (i + k) 0 = ys.getD k 0 then 1 else 0
theorem own_eqk_iff (xs ys : List Int32) (i k : Nat) : ¬ own_eqk xs ys i k = 0 ↔ (k < ys.length → xs.getD (i + k) 0 = ys.getD k 0) := by
  unfold own_eqk
  by_cases h1 : ys.length ≤ k
  · rw [if_pos h1]; exact ⟨fun _ h => absurd h (Nat.not_lt.mpr h1), fun _ => by decide⟩
  · rw [if_neg h1]
    by_cases h2 : xs.getD (i + k) 0 = ys.getD k 0
    · rw [if_pos h2]; exact ⟨fun _ _ => h2, fun _ => by decide⟩
    · rw [if_neg h2]; exact ⟨fun h => absurd rfl h, fun h => absurd (h (Nat.lt_of_not_le h1)) h2⟩
theorem own_m1_1 {xs ys : List Int32} {i : Nat} (hm : ys.length ≤ 3) (hi : i + ys.length ≤ xs.length) (h0 : ¬ own_eqk xs ys i 0 = 0) (h1 : ¬ own_eqk xs ys i 1 = 0) (h2 : ¬ own_eqk xs ys i 2 = 0) : own_m1 xs ys i = 1 := by
  refine if_pos ((own_mt_iff xs ys i).mpr ⟨hi, fun j hj => ?_⟩)
  have : j = 0 ∨ j = 1 ∨ j = 2 := by omega
  rcases this with rfl | rfl | rfl
  · exact (own_eqk_iff ..).mp h0 hj
  · exact (own_eqk_iff ..).mp h1 hj
  · exact (own_eqk_iff ..).mp h2 hj
theorem own_m1_0 {xs ys : List Int32} {i k : Nat} (h : own_eqk xs ys i k = 0) : own_m1 xs ys i = 0 := by
  refine if_neg fun q => ?_
  have a := (own_mt_iff xs ys i).mp q
  exact (own_eqk_iff xs ys i k).mpr (fun hk => a.2 k hk) h
theorem own_m1_n {xs ys : List Int32} {i : Nat} (h : ¬ i + ys.length ≤ xs.length) : own_m1 xs ys i = 0 := if_neg fun q => h ((own_mt_iff xs ys i).mp q).1
theorem own_lt_nat {a b : Nat} (ha : a < 2147483648) (hb : b < 2147483648) : (Int32.ofNat a < Int32.ofNat b) ↔ a < b := by
  rw [Int32.lt_iff_toInt_lt, own_nat a ha, own_nat b hb]; omega
theorem own_eq_nat {a b : Nat} (ha : a < 2147483648) (hb : b < 2147483648) : (Int32.ofNat a = Int32.ofNat b) ↔ a = b := by
  rw [← Int32.toInt_inj, own_nat a ha, own_nat b hb]; omega
theorem own_add_nat (a b : Nat) : Int32.ofNat a + Int32.ofNat b = Int32.ofNat (a + b) := (Int32.ofNat_add a b).symm
theorem own_m1_fin1 {xs ys : List Int32} {i : Nat} (h : ¬ own_m1 xs ys i = 0) : own_holds xs ys = 1 := by
  refine own_holds1 (i := i) ((own_mt_iff xs ys i).mp ?_)
  unfold own_m1 at h
  by_cases q : own_mt xs ys i = true
  · exact q
  · rw [if_neg q] at h; exact absurd rfl h
theorem own_m1_fin0 {xs ys : List Int32} (hx : xs.length ≤ 5) (h0 : own_m1 xs ys 0 = 0) (h1 : own_m1 xs ys 1 = 0) (h2 : own_m1 xs ys 2 = 0) (h3 : own_m1 xs ys 3 = 0) (h4 : own_m1 xs ys 4 = 0) (h5 : own_m1 xs ys 5 = 0) : own_holds xs ys = 0 := by
  refine own_holds0 fun i hi => ?_
  have key : ∀ k, own_m1 xs ys k = 0 → ¬ own_at xs ys k := fun k hk ha => by
    unfold own_m1 at hk
    rw [if_pos ((own_mt_iff xs ys k).mpr ha)] at hk
    exact absurd hk (by decide)
  have := hi.1
  have : i = 0 ∨ i = 1 ∨ i = 2 ∨ i = 3 ∨ i = 4 ∨ i = 5 := by omega
  rcases this with rfl | rfl | rfl | rfl | rfl | rfl
  · exact key 0 h0 hi
  · exact key 1 h1 hi
  · exact key 2 h2 hi
  · exact key 3 h3 hi
  · exact key 4 h4 hi
  · exact key 5 h5 hi
theorem own_rem6b (x : Int32) : ((x &&& (7 : Int32)) % (6 : Int32)) = 0 ∨ ((x &&& (7 : Int32)) % (6 : Int32)) = 1 ∨ ((x &&& (7 : Int32)) % (6 : Int32)) = 2 ∨ ((x &&& (7 : Int32)) % (6 : Int32)) = 3 ∨ ((x &&& (7 : Int32)) % (6 : Int32)) = 4 ∨ ((x &&& (7 : Int32)) % (6 : Int32)) = 5 := by
  have h := (c_and x (7 : Int32) (by decide)).1
  generalize (x &&& (7 : Int32)) = y at h
  have h2 := (c_irem y (6 : Int32) 6 (by decide)).1 h
  generalize (y % (6 : Int32)) = i at h2
  have q : i.toInt = 0 ∨ i.toInt = 1 ∨ i.toInt = 2 ∨ i.toInt = 3 ∨ i.toInt = 4 ∨ i.toInt = 5 := by omega
  rcases q with q | q | q | q | q | q
  · exact Or.inl (own_int q)
  · exact Or.inr (Or.inl (own_int q))
  · exact Or.inr (Or.inr (Or.inl (own_int q)))
  · exact Or.inr (Or.inr (Or.inr (Or.inl (own_int q))))
  · exact Or.inr (Or.inr (Or.inr (Or.inr (Or.inl (own_int q)))))
  · exact Or.inr (Or.inr (Or.inr (Or.inr (Or.inr (own_int q)))))

theorem d_method_3_0 : Jvm.ClassFile.decode method_3_code 0 = .ok (.lload_n 0, 1) := by decide +kernel
theorem d_method_3_1 : Jvm.ClassFile.decode method_3_code 1 = .ok (.bipush 8, 2) := by decide +kernel
theorem d_method_3_3 : Jvm.ClassFile.decode method_3_code 3 = .ok (.iload_n 2, 1) := by decide +kernel
theorem d_method_3_4 : Jvm.ClassFile.decode method_3_code 4 = .ok (.imul, 1) := by decide +kernel
theorem d_method_3_5 : Jvm.ClassFile.decode method_3_code 5 = .ok (.lushr, 1) := by decide +kernel
theorem d_method_3_6 : Jvm.ClassFile.decode method_3_code 6 = .ok (.l2i, 1) := by decide +kernel
theorem d_method_3_7 : Jvm.ClassFile.decode method_3_code 7 = .ok (.i2b, 1) := by decide +kernel
theorem d_method_3_8 : Jvm.ClassFile.decode method_3_code 8 = .ok (.istore 5, 2) := by decide +kernel
theorem d_method_3_10 : Jvm.ClassFile.decode method_3_code 10 = .ok (.iload_n 3, 1) := by decide +kernel
theorem d_method_3_11 : Jvm.ClassFile.decode method_3_code 11 = .ok (.ifCond .eq 14, 3) := by decide +kernel
theorem d_method_3_25 : Jvm.ClassFile.decode method_3_code 25 = .ok (.iload 5, 2) := by decide +kernel
theorem d_method_3_27 : Jvm.ClassFile.decode method_3_code 27 = .ok (.ireturn, 1) := by decide +kernel
theorem d_method_3_14 : Jvm.ClassFile.decode method_3_code 14 = .ok (.iload 4, 2) := by decide +kernel
theorem d_method_3_16 : Jvm.ClassFile.decode method_3_code 16 = .ok (.iload 5, 2) := by decide +kernel
theorem d_method_3_18 : Jvm.ClassFile.decode method_3_code 18 = .ok (.iconst 1, 1) := by decide +kernel
theorem d_method_3_19 : Jvm.ClassFile.decode method_3_code 19 = .ok (.iand, 1) := by decide +kernel
theorem d_method_3_20 : Jvm.ClassFile.decode method_3_code 20 = .ok (.ixor, 1) := by decide +kernel
theorem d_method_3_21 : Jvm.ClassFile.decode method_3_code 21 = .ok (.i2b, 1) := by decide +kernel
theorem d_method_3_22 : Jvm.ClassFile.decode method_3_code 22 = .ok (.goto 5, 3) := by decide +kernel
def own_b (p1 : Int64) (p2 : Int32) (p3 : Int32) (p4 : Int32) : Int32 := (if p3 = (0 : Int32) then (nar .byte ((((p1.toUInt64 >>> (((8 : Int32) * p2) &&& 0x3f).toInt64.toUInt64).toInt64).toInt32).toInt8.toInt32)) else (nar .byte ((p4 ^^^ (((((p1.toUInt64 >>> (((8 : Int32) * p2) &&& 0x3f).toInt64.toUInt64).toInt64).toInt32).toInt8.toInt32) &&& (1 : Int32))).toInt8.toInt32)))
theorem own_pn0 : plainName "com/example/tallyhouse/tallyhouse/fix/MadeUpMembersHoldsPinLaw" = true := by first | (simp [plainName, overriddenIn]; done) | decide +kernel
theorem own_ef_rm_b (m : MethodId) (x0 : Int64) (x1 : Int32) (x2 : Int32) (x3 : Int32) : entryFrame m #[(.long x0), (.int x1), (.int x2), (.int x3)] 6 = mkF m 0 #[.val (.long x0), .second, .val (.int x1), .val (.int x2), .val (.int x3), .unset] [] := by first | (simp [entryFrame, mkF, argsToLocals, Value.category]; done) | rfl
set_option maxRecDepth 65536 in
set_option maxHeartbeats 40000000 in
theorem rm_b (l : Launch) (Z : State) (a0 : Array Value) (hw : ∀ d ∈ tables_1, d.before a0 Z = true) (ws : List Jvm.Cond) (p1 : Int64) (p2 : Int32) (p3 : Int32) (p4 : Int32) (r : Int32) (h0 : Heap) (n0 : Nat) (hn0 : n0 ≤ h0.size) (hr : own_b p1 p2 p3 p4 = r) :
    OwnMet l Z (⟨"com/example/tallyhouse/tallyhouse/fix/MadeUpMembersHoldsPinLaw", "b", "(JIZB)B"⟩ : MethodName) method_3_code 6 (some .byte) ws ({ frames := 0, cells := 0, slots := 0, locals := 0 } : Room) #[(.long p1), (.int p2), (.int p3), (.int p4)] h0 (OwnP (some (.int r)) h0 n0) := by
  refine own_body (plainFor_of_name own_pn0) ?_
  intro p e s m below meth c s₁ X0 hx hby hml hret hlk hown0 hnm hZ e0 hs0
  have hown : s.vm.findClass "com/example/tallyhouse/tallyhouse/fix/MadeUpMembersHoldsPinLaw" = some m.cls := hown0
  have N0 := Fr.nil n0
  refine own_entry (own_ef_rm_b m p1 p2 p3 p4) ?_
  show Go _ _ _ _ _ s₁ (mkF m 0 #[.val (.long p1), .second, .val (.int p2), .val (.int p3), .val (.int p4), .unset] [])
  refine own_go (fun t k => XS.lloadN X0.here hx rfl (hb hby d_method_3_0) rfl k) ?_
  show Go _ _ _ _ _ s₁ (mkF m 1 #[.val (.long p1), .second, .val (.int p2), .val (.int p3), .val (.int p4), .unset] [(.long p1)])
  refine own_go (fun t k => XS.bipush X0.here hx rfl (hb hby d_method_3_1) k) ?_
  show Go _ _ _ _ _ s₁ (mkF m 3 #[.val (.long p1), .second, .val (.int p2), .val (.int p3), .val (.int p4), .unset] [(.int (8 : Int32)), (.long p1)])
  refine own_go (fun t k => XS.iloadN X0.here hx rfl (hb hby d_method_3_3) rfl k) ?_
  show Go _ _ _ _ _ s₁ (mkF m 4 #[.val (.long p1), .second, .val (.int p2), .val (.int p3), .val (.int p4), .unset] [(.int p2), (.int (8 : Int32)), (.long p1)])
  refine own_go (fun t k => XS.imul X0.here hx rfl (hb hby d_method_3_4) rfl k) ?_
  show Go _ _ _ _ _ s₁ (mkF m 5 #[.val (.long p1), .second, .val (.int p2), .val (.int p3), .val (.int p4), .unset] [(.int ((8 : Int32) * p2)), (.long p1)])
  refine own_go (fun t k => XS.lushr X0.here hx rfl (hb hby d_method_3_5) rfl k) ?_
  show Go _ _ _ _ _ s₁ (mkF m 6 #[.val (.long p1), .second, .val (.int p2), .val (.int p3), .val (.int p4), .unset] [(.long ((p1.toUInt64 >>> (((8 : Int32) * p2) &&& 0x3f).toInt64.toUInt64).toInt64))])
  refine own_go (fun t k => XS.l2i X0.here hx rfl (hb hby d_method_3_6) rfl k) ?_
  show Go _ _ _ _ _ s₁ (mkF m 7 #[.val (.long p1), .second, .val (.int p2), .val (.int p3), .val (.int p4), .unset] [(.int (((p1.toUInt64 >>> (((8 : Int32) * p2) &&& 0x3f).toInt64.toUInt64).toInt64).toInt32))])
  refine own_go (fun t k => XS.i2b X0.here hx rfl (hb hby d_method_3_7) rfl k) ?_
  show Go _ _ _ _ _ s₁ (mkF m 8 #[.val (.long p1), .second, .val (.int p2), .val (.int p3), .val (.int p4), .unset] [(.int ((((p1.toUInt64 >>> (((8 : Int32) * p2) &&& 0x3f).toInt64.toUInt64).toInt64).toInt32).toInt8.toInt32))])
  refine own_go (fun t k => XS.istore X0.here hx rfl (hb hby d_method_3_8) rfl (l' := #[.val (.long p1), .second, .val (.int p2), .val (.int p3), .val (.int p4), .val (.int ((((p1.toUInt64 >>> (((8 : Int32) * p2) &&& 0x3f).toInt64.toUInt64).toInt64).toInt32).toInt8.toInt32))]) rfl k) ?_
  show Go _ _ _ _ _ s₁ (mkF m 10 #[.val (.long p1), .second, .val (.int p2), .val (.int p3), .val (.int p4), .val (.int ((((p1.toUInt64 >>> (((8 : Int32) * p2) &&& 0x3f).toInt64.toUInt64).toInt64).toInt32).toInt8.toInt32))] [])
  refine own_go (fun t k => XS.iloadN X0.here hx rfl (hb hby d_method_3_10) rfl k) ?_
  show Go _ _ _ _ _ s₁ (mkF m 11 #[.val (.long p1), .second, .val (.int p2), .val (.int p3), .val (.int p4), .val (.int ((((p1.toUInt64 >>> (((8 : Int32) * p2) &&& 0x3f).toInt64.toUInt64).toInt64).toInt32).toInt8.toInt32))] [(.int p3)])
  refine own_ifP (p3 = (0 : Int32)) X0 hx (hb hby d_method_3_11) (own_eq _ _) (by decide) (by decide) (pc' := 25) (fun hc2 => ?_) (fun hc2 => ?_)
  · skip
    show Go _ _ _ _ _ s₁ (mkF m 25 #[.val (.long p1), .second, .val (.int p2), .val (.int p3), .val (.int p4), .val (.int ((((p1.toUInt64 >>> (((8 : Int32) * p2) &&& 0x3f).toInt64.toUInt64).toInt64).toInt32).toInt8.toInt32))] [])
    refine own_go (fun t k => XS.iload X0.here hx rfl (hb hby d_method_3_25) rfl k) ?_
    show Go _ _ _ _ _ s₁ (mkF m 27 #[.val (.long p1), .second, .val (.int p2), .val (.int p3), .val (.int p4), .val (.int ((((p1.toUInt64 >>> (((8 : Int32) * p2) &&& 0x3f).toInt64.toUInt64).toInt64).toInt32).toInt8.toInt32))] [(.int ((((p1.toUInt64 >>> (((8 : Int32) * p2) &&& 0x3f).toInt64.toUInt64).toInt64).toInt32).toInt8.toInt32))])
    refine own_retN X0 hx (own_lvN X0 hlk (by decide) (by decide)) (t := .byte) hret (by simp) (hb hby d_method_3_27) ?_
    exact ⟨(by rw [← hr, own_b, if_pos hc2]; try rfl), N0, e0⟩
  · skip
    show Go _ _ _ _ _ s₁ (mkF m 14 #[.val (.long p1), .second, .val (.int p2), .val (.int p3), .val (.int p4), .val (.int ((((p1.toUInt64 >>> (((8 : Int32) * p2) &&& 0x3f).toInt64.toUInt64).toInt64).toInt32).toInt8.toInt32))] [])
    refine own_go (fun t k => XS.iload X0.here hx rfl (hb hby d_method_3_14) rfl k) ?_
    show Go _ _ _ _ _ s₁ (mkF m 16 #[.val (.long p1), .second, .val (.int p2), .val (.int p3), .val (.int p4), .val (.int ((((p1.toUInt64 >>> (((8 : Int32) * p2) &&& 0x3f).toInt64.toUInt64).toInt64).toInt32).toInt8.toInt32))] [(.int p4)])
    refine own_go (fun t k => XS.iload X0.here hx rfl (hb hby d_method_3_16) rfl k) ?_
    show Go _ _ _ _ _ s₁ (mkF m 18 #[.val (.long p1), .second, .val (.int p2), .val (.int p3), .val (.int p4), .val (.int ((((p1.toUInt64 >>> (((8 : Int32) * p2) &&& 0x3f).toInt64.toUInt64).toInt64).toInt32).toInt8.toInt32))] [(.int ((((p1.toUInt64 >>> (((8 : Int32) * p2) &&& 0x3f).toInt64.toUInt64).toInt64).toInt32).toInt8.toInt32)), (.int p4)])
    refine own_go (fun t k => XS.iconst X0.here hx rfl (hb hby d_method_3_18) k) ?_
    show Go _ _ _ _ _ s₁ (mkF m 19 #[.val (.long p1), .second, .val (.int p2), .val (.int p3), .val (.int p4), .val (.int ((((p1.toUInt64 >>> (((8 : Int32) * p2) &&& 0x3f).toInt64.toUInt64).toInt64).toInt32).toInt8.toInt32))] [(.int (1 : Int32)), (.int ((((p1.toUInt64 >>> (((8 : Int32) * p2) &&& 0x3f).toInt64.toUInt64).toInt64).toInt32).toInt8.toInt32)), (.int p4)])
    refine own_go (fun t k => XS.iand X0.here hx rfl (hb hby d_method_3_19) rfl k) ?_
    show Go _ _ _ _ _ s₁ (mkF m 20 #[.val (.long p1), .second, .val (.int p2), .val (.int p3), .val (.int p4), .val (.int ((((p1.toUInt64 >>> (((8 : Int32) * p2) &&& 0x3f).toInt64.toUInt64).toInt64).toInt32).toInt8.toInt32))] [(.int (((((p1.toUInt64 >>> (((8 : Int32) * p2) &&& 0x3f).toInt64.toUInt64).toInt64).toInt32).toInt8.toInt32) &&& (1 : Int32))), (.int p4)])
    refine own_go (fun t k => XS.ixor X0.here hx rfl (hb hby d_method_3_20) rfl k) ?_
    show Go _ _ _ _ _ s₁ (mkF m 21 #[.val (.long p1), .second, .val (.int p2), .val (.int p3), .val (.int p4), .val (.int ((((p1.toUInt64 >>> (((8 : Int32) * p2) &&& 0x3f).toInt64.toUInt64).toInt64).toInt32).toInt8.toInt32))] [(.int (p4 ^^^ (((((p1.toUInt64 >>> (((8 : Int32) * p2) &&& 0x3f).toInt64.toUInt64).toInt64).toInt32).toInt8.toInt32) &&& (1 : Int32))))])
    refine own_go (fun t k => XS.i2b X0.here hx rfl (hb hby d_method_3_21) rfl k) ?_
    show Go _ _ _ _ _ s₁ (mkF m 22 #[.val (.long p1), .second, .val (.int p2), .val (.int p3), .val (.int p4), .val (.int ((((p1.toUInt64 >>> (((8 : Int32) * p2) &&& 0x3f).toInt64.toUInt64).toInt64).toInt32).toInt8.toInt32))] [(.int ((p4 ^^^ (((((p1.toUInt64 >>> (((8 : Int32) * p2) &&& 0x3f).toInt64.toUInt64).toInt64).toInt32).toInt8.toInt32) &&& (1 : Int32))).toInt8.toInt32))])
    refine own_go (fun t k => XS.goto X0.here hx rfl (pc0 := 22) (pc' := 27) rfl (hb hby d_method_3_22) (by decide) (by decide) k) ?_
    show Go _ _ _ _ _ s₁ (mkF m 27 #[.val (.long p1), .second, .val (.int p2), .val (.int p3), .val (.int p4), .val (.int ((((p1.toUInt64 >>> (((8 : Int32) * p2) &&& 0x3f).toInt64.toUInt64).toInt64).toInt32).toInt8.toInt32))] [(.int ((p4 ^^^ (((((p1.toUInt64 >>> (((8 : Int32) * p2) &&& 0x3f).toInt64.toUInt64).toInt64).toInt32).toInt8.toInt32) &&& (1 : Int32))).toInt8.toInt32))])
    refine own_retN X0 hx (own_lvN X0 hlk (by decide) (by decide)) (t := .byte) hret (by simp) (hb hby d_method_3_27) ?_
    exact ⟨(by rw [← hr, own_b, if_neg hc2]; try rfl), N0, e0⟩
def OwnQ_make (Z : State) (n : Nat) (h0 : Heap) (n0 : Nat) (v : Option Value) (h : Heap) (L : List Loc) : Prop := ∃ (b : Addr) (xs : List Int32), v = some (.ref b) ∧ Fr n0 L ∧ Keep h0 h [] ∧ h0.size ≤ b ∧ xs.length = n ∧ OwnBA Z h b xs
theorem d_method_4_0 : Jvm.ClassFile.decode method_4_code 0 = .ok (.iload_n 0, 1) := by decide +kernel
theorem d_method_4_1 : Jvm.ClassFile.decode method_4_code 1 = .ok (.newarray .byte, 2) := by decide +kernel
theorem d_method_4_3 : Jvm.ClassFile.decode method_4_code 3 = .ok (.astore 5, 2) := by decide +kernel
theorem d_method_4_5 : Jvm.ClassFile.decode method_4_code 5 = .ok (.iload_n 0, 1) := by decide +kernel
theorem d_method_4_6 : Jvm.ClassFile.decode method_4_code 6 = .ok (.ifCond .le 15, 3) := by decide +kernel
theorem d_method_4_21 : Jvm.ClassFile.decode method_4_code 21 = .ok (.iload_n 0, 1) := by decide +kernel
theorem d_method_4_22 : Jvm.ClassFile.decode method_4_code 22 = .ok (.iconst 1, 1) := by decide +kernel
theorem d_method_4_23 : Jvm.ClassFile.decode method_4_code 23 = .ok (.if_icmp .le 15, 3) := by decide +kernel
theorem d_method_4_38 : Jvm.ClassFile.decode method_4_code 38 = .ok (.iload_n 0, 1) := by decide +kernel
theorem d_method_4_39 : Jvm.ClassFile.decode method_4_code 39 = .ok (.iconst 2, 1) := by decide +kernel
theorem d_method_4_40 : Jvm.ClassFile.decode method_4_code 40 = .ok (.if_icmp .le 15, 3) := by decide +kernel
theorem d_method_4_55 : Jvm.ClassFile.decode method_4_code 55 = .ok (.iload_n 0, 1) := by decide +kernel
theorem d_method_4_56 : Jvm.ClassFile.decode method_4_code 56 = .ok (.iconst 3, 1) := by decide +kernel
theorem d_method_4_57 : Jvm.ClassFile.decode method_4_code 57 = .ok (.if_icmp .le 15, 3) := by decide +kernel
theorem d_method_4_72 : Jvm.ClassFile.decode method_4_code 72 = .ok (.iload_n 0, 1) := by decide +kernel
theorem d_method_4_73 : Jvm.ClassFile.decode method_4_code 73 = .ok (.iconst 4, 1) := by decide +kernel
theorem d_method_4_74 : Jvm.ClassFile.decode method_4_code 74 = .ok (.if_icmp .le 15, 3) := by decide +kernel
theorem d_method_4_89 : Jvm.ClassFile.decode method_4_code 89 = .ok (.aload 5, 2) := by decide +kernel
theorem d_method_4_91 : Jvm.ClassFile.decode method_4_code 91 = .ok (.areturn, 1) := by decide +kernel
theorem own_ef_rm_make_0 (m : MethodId) (x1 : Int64) (x2 : Int32) (x3 : Int32) : entryFrame m #[(.int (0 : Int32)), (.long x1), (.int x2), (.int x3)] 6 = mkF m 0 #[.val (.int (0 : Int32)), .val (.long x1), .second, .val (.int x2), .val (.int x3), .unset] [] := by first | (simp [entryFrame, mkF, argsToLocals, Value.category]; done) | rfl
set_option maxRecDepth 65536 in
set_option maxHeartbeats 40000000 in
theorem rm_make_0 (l : Launch) (Z : State) (a0 : Array Value) (hw : ∀ d ∈ tables_1, d.before a0 Z = true) (ws : List Jvm.Cond) (p2 : Int64) (p3 : Int32) (p4 : Int32) (h0 : Heap) (n0 : Nat) (hn0 : n0 ≤ h0.size)  :
    OwnMet l Z (⟨"com/example/tallyhouse/tallyhouse/fix/MadeUpMembersHoldsPinLaw", "make", "(IJZB)[B"⟩ : MethodName) method_4_code 6 (some (.array .byte)) ws ({ frames := 2, cells := 1, slots := 5, locals := 36 } : Room) #[(.int (0 : Int32)), (.long p2), (.int p3), (.int p4)] h0 (OwnQ_make Z 0 h0 n0) := by
  refine own_body (plainFor_of_name own_pn0) ?_
  intro p e s m below meth c s₁ X0 hx hby hml hret hlk hown0 hnm hZ e0 hs0
  have hown : s.vm.findClass "com/example/tallyhouse/tallyhouse/fix/MadeUpMembersHoldsPinLaw" = some m.cls := hown0
  have N0 := Fr.nil n0
  refine own_entry (own_ef_rm_make_0 m p2 p3 p4) ?_
  have K0 := Keep.refl h0 []
  show Go _ _ _ _ _ s₁ (mkF m 0 #[.val (.int (0 : Int32)), .val (.long p2), .second, .val (.int p3), .val (.int p4), .unset] [])
  refine own_go (fun t k => XS.iloadN X0.here hx rfl (hb hby d_method_4_0) rfl k) ?_
  show Go _ _ _ _ _ s₁ (mkF m 1 #[.val (.int (0 : Int32)), .val (.long p2), .second, .val (.int p3), .val (.int p4), .unset] [(.int (0 : Int32))])
  obtain ⟨T3, h3, k3, X3, e3, E3, A3, st3⟩ := newP X0 hx hZ (hw _ (List.mem_of_getElem? (i := 4) rfl)) e0 (g := (mkF m 1 #[.val (.int (0 : Int32)), .val (.long p2), .second, .val (.int p3), .val (.int p4), .unset] [(.int (0 : Int32))])) rfl (hb hby d_method_4_1) rfl (by decide) (cap := 0) (by decide) (by decide) (by decide) (by decide)
  obtain ⟨b3, g3⟩ : ∃ z, z = h0.size := ⟨_, rfl⟩
  rw [← g3] at A3 st3
  have g_b3 : n0 ≤ b3 := by rw [g3]; exact hn0
  have hn3 : n0 ≤ h3.size := Nat.le_trans hn0 E3.1
  have sz_b3 : h0.size ≤ b3 := by rw [g3]; exact K0.1
  have K3 := K0.ext E3
  refine own_go (fun t k => st3 t k) ?_
  have V3 : Arv Z h3 b3 k3 .byte (0 : Int32) [] (.int (0 : Int32)) := (Arv.new A3 (by decide)).pad (pad_rep [] (.int (0 : Int32)) 0)
  show Go _ _ _ _ _ T3 (mkF m 3 #[.val (.int (0 : Int32)), .val (.long p2), .second, .val (.int p3), .val (.int p4), .unset] [(.ref b3)])
  refine own_go (fun t k => XS.astore X3.here hx rfl (hb hby d_method_4_3) rfl rfl (l' := #[.val (.int (0 : Int32)), .val (.long p2), .second, .val (.int p3), .val (.int p4), .val (.ref b3)]) rfl k) ?_
  show Go _ _ _ _ _ T3 (mkF m 5 #[.val (.int (0 : Int32)), .val (.long p2), .second, .val (.int p3), .val (.int p4), .val (.ref b3)] [])
  refine own_go (fun t k => XS.iloadN X3.here hx rfl (hb hby d_method_4_5) rfl k) ?_
  show Go _ _ _ _ _ T3 (mkF m 6 #[.val (.int (0 : Int32)), .val (.long p2), .second, .val (.int p3), .val (.int p4), .val (.ref b3)] [(.int (0 : Int32))])
  refine own_go (fun t k => XS.ifYes X3.here hx rfl (pc0 := 6) (pc' := 21) rfl (hb hby d_method_4_6) rfl (by decide) (by decide) (by decide) k) ?_
  show Go _ _ _ _ _ T3 (mkF m 21 #[.val (.int (0 : Int32)), .val (.long p2), .second, .val (.int p3), .val (.int p4), .val (.ref b3)] [])
  refine own_go (fun t k => XS.iloadN X3.here hx rfl (hb hby d_method_4_21) rfl k) ?_
  show Go _ _ _ _ _ T3 (mkF m 22 #[.val (.int (0 : Int32)), .val (.long p2), .second, .val (.int p3), .val (.int p4), .val (.ref b3)] [(.int (0 : Int32))])
  refine own_go (fun t k => XS.iconst X3.here hx rfl (hb hby d_method_4_22) k) ?_
  show Go _ _ _ _ _ T3 (mkF m 23 #[.val (.int (0 : Int32)), .val (.long p2), .second, .val (.int p3), .val (.int p4), .val (.ref b3)] [(.int (1 : Int32)), (.int (0 : Int32))])
  refine own_go (fun t k => XS.icmpYes X3.here hx rfl (pc0 := 23) (pc' := 38) rfl (hb hby d_method_4_23) rfl (by decide) (by decide) (by decide) k) ?_
  show Go _ _ _ _ _ T3 (mkF m 38 #[.val (.int (0 : Int32)), .val (.long p2), .second, .val (.int p3), .val (.int p4), .val (.ref b3)] [])
  refine own_go (fun t k => XS.iloadN X3.here hx rfl (hb hby d_method_4_38) rfl k) ?_
  show Go _ _ _ _ _ T3 (mkF m 39 #[.val (.int (0 : Int32)), .val (.long p2), .second, .val (.int p3), .val (.int p4), .val (.ref b3)] [(.int (0 : Int32))])
  refine own_go (fun t k => XS.iconst X3.here hx rfl (hb hby d_method_4_39) k) ?_
  show Go _ _ _ _ _ T3 (mkF m 40 #[.val (.int (0 : Int32)), .val (.long p2), .second, .val (.int p3), .val (.int p4), .val (.ref b3)] [(.int (2 : Int32)), (.int (0 : Int32))])
  refine own_go (fun t k => XS.icmpYes X3.here hx rfl (pc0 := 40) (pc' := 55) rfl (hb hby d_method_4_40) rfl (by decide) (by decide) (by decide) k) ?_
  show Go _ _ _ _ _ T3 (mkF m 55 #[.val (.int (0 : Int32)), .val (.long p2), .second, .val (.int p3), .val (.int p4), .val (.ref b3)] [])
  refine own_go (fun t k => XS.iloadN X3.here hx rfl (hb hby d_method_4_55) rfl k) ?_
  show Go _ _ _ _ _ T3 (mkF m 56 #[.val (.int (0 : Int32)), .val (.long p2), .second, .val (.int p3), .val (.int p4), .val (.ref b3)] [(.int (0 : Int32))])
  refine own_go (fun t k => XS.iconst X3.here hx rfl (hb hby d_method_4_56) k) ?_
  show Go _ _ _ _ _ T3 (mkF m 57 #[.val (.int (0 : Int32)), .val (.long p2), .second, .val (.int p3), .val (.int p4), .val (.ref b3)] [(.int (3 : Int32)), (.int (0 : Int32))])
  refine own_go (fun t k => XS.icmpYes X3.here hx rfl (pc0 := 57) (pc' := 72) rfl (hb hby d_method_4_57) rfl (by decide) (by decide) (by decide) k) ?_
  show Go _ _ _ _ _ T3 (mkF m 72 #[.val (.int (0 : Int32)), .val (.long p2), .second, .val (.int p3), .val (.int p4), .val (.ref b3)] [])
  refine own_go (fun t k => XS.iloadN X3.here hx rfl (hb hby d_method_4_72) rfl k) ?_
  show Go _ _ _ _ _ T3 (mkF m 73 #[.val (.int (0 : Int32)), .val (.long p2), .second, .val (.int p3), .val (.int p4), .val (.ref b3)] [(.int (0 : Int32))])
  refine own_go (fun t k => XS.iconst X3.here hx rfl (hb hby d_method_4_73) k) ?_
  show Go _ _ _ _ _ T3 (mkF m 74 #[.val (.int (0 : Int32)), .val (.long p2), .second, .val (.int p3), .val (.int p4), .val (.ref b3)] [(.int (4 : Int32)), (.int (0 : Int32))])
  refine own_go (fun t k => XS.icmpYes X3.here hx rfl (pc0 := 74) (pc' := 89) rfl (hb hby d_method_4_74) rfl (by decide) (by decide) (by decide) k) ?_
  show Go _ _ _ _ _ T3 (mkF m 89 #[.val (.int (0 : Int32)), .val (.long p2), .second, .val (.int p3), .val (.int p4), .val (.ref b3)] [])
  refine own_go (fun t k => XS.aload X3.here hx rfl (hb hby d_method_4_89) rfl rfl k) ?_
  show Go _ _ _ _ _ T3 (mkF m 91 #[.val (.int (0 : Int32)), .val (.long p2), .second, .val (.int p3), .val (.int p4), .val (.ref b3)] [(.ref b3)])
  refine own_retA X3 hx (own_lvN X3 hlk (by decide) (by decide)) hret rfl rfl (hb hby d_method_4_91) ?_
  rw [e3]
  exact ⟨_, [], rfl, N0, K3, sz_b3, rfl, Nat.le_of_ble_eq_true rfl, _, V3⟩
theorem d_method_4_9 : Jvm.ClassFile.decode method_4_code 9 = .ok (.aload 5, 2) := by decide +kernel
theorem d_method_4_11 : Jvm.ClassFile.decode method_4_code 11 = .ok (.iconst 0, 1) := by decide +kernel
theorem d_method_4_12 : Jvm.ClassFile.decode method_4_code 12 = .ok (.lload_n 1, 1) := by decide +kernel
theorem d_method_4_13 : Jvm.ClassFile.decode method_4_code 13 = .ok (.iconst 0, 1) := by decide +kernel
theorem d_method_4_14 : Jvm.ClassFile.decode method_4_code 14 = .ok (.iload_n 3, 1) := by decide +kernel
theorem d_method_4_15 : Jvm.ClassFile.decode method_4_code 15 = .ok (.iload 4, 2) := by decide +kernel
theorem d_method_4_17 : Jvm.ClassFile.decode method_4_code 17 = .ok (.invokestatic 23, 3) := by decide +kernel
theorem own_pd0 : parseMethodDescriptor "(JIZB)B" = some ⟨[.long, .int, .boolean, .byte], some .byte⟩ := by decide +kernel
theorem d_method_4_20 : Jvm.ClassFile.decode method_4_code 20 = .ok (.bastore, 1) := by decide +kernel
theorem own_ef_rm_make_1 (m : MethodId) (x1 : Int64) (x2 : Int32) (x3 : Int32) : entryFrame m #[(.int (1 : Int32)), (.long x1), (.int x2), (.int x3)] 6 = mkF m 0 #[.val (.int (1 : Int32)), .val (.long x1), .second, .val (.int x2), .val (.int x3), .unset] [] := by first | (simp [entryFrame, mkF, argsToLocals, Value.category]; done) | rfl
set_option maxRecDepth 65536 in
set_option maxHeartbeats 40000000 in
theorem rm_make_1 (l : Launch) (Z : State) (a0 : Array Value) (hw : ∀ d ∈ tables_1, d.before a0 Z = true) (ws : List Jvm.Cond) (p2 : Int64) (p3 : Int32) (p4 : Int32) (h0 : Heap) (n0 : Nat) (hn0 : n0 ≤ h0.size)  :
    OwnMet l Z (⟨"com/example/tallyhouse/tallyhouse/fix/MadeUpMembersHoldsPinLaw", "make", "(IJZB)[B"⟩ : MethodName) method_4_code 6 (some (.array .byte)) ws ({ frames := 2, cells := 1, slots := 5, locals := 36 } : Room) #[(.int (1 : Int32)), (.long p2), (.int p3), (.int p4)] h0 (OwnQ_make Z 1 h0 n0) := by
  refine own_body (plainFor_of_name own_pn0) ?_
  intro p e s m below meth c s₁ X0 hx hby hml hret hlk hown0 hnm hZ e0 hs0
  have hown : s.vm.findClass "com/example/tallyhouse/tallyhouse/fix/MadeUpMembersHoldsPinLaw" = some m.cls := hown0
  have N0 := Fr.nil n0
  refine own_entry (own_ef_rm_make_1 m p2 p3 p4) ?_
  have K0 := Keep.refl h0 []
  show Go _ _ _ _ _ s₁ (mkF m 0 #[.val (.int (1 : Int32)), .val (.long p2), .second, .val (.int p3), .val (.int p4), .unset] [])
  refine own_go (fun t k => XS.iloadN X0.here hx rfl (hb hby d_method_4_0) rfl k) ?_
  show Go _ _ _ _ _ s₁ (mkF m 1 #[.val (.int (1 : Int32)), .val (.long p2), .second, .val (.int p3), .val (.int p4), .unset] [(.int (1 : Int32))])
  obtain ⟨T4, h4, k4, X4, e4, E4, A4, st4⟩ := newP X0 hx hZ (hw _ (List.mem_of_getElem? (i := 4) rfl)) e0 (g := (mkF m 1 #[.val (.int (1 : Int32)), .val (.long p2), .second, .val (.int p3), .val (.int p4), .unset] [(.int (1 : Int32))])) rfl (hb hby d_method_4_1) rfl (by decide) (cap := 1) (by decide) (by decide) (by decide) (by decide)
  obtain ⟨b4, g4⟩ : ∃ z, z = h0.size := ⟨_, rfl⟩
  rw [← g4] at A4 st4
  have g_b4 : n0 ≤ b4 := by rw [g4]; exact hn0
  have hn4 : n0 ≤ h4.size := Nat.le_trans hn0 E4.1
  have sz_b4 : h0.size ≤ b4 := by rw [g4]; exact K0.1
  have K4 := K0.ext E4
  refine own_go (fun t k => st4 t k) ?_
  have V4 : Arv Z h4 b4 k4 .byte (1 : Int32) [(.int (0 : Int32))] (.int (0 : Int32)) := (Arv.new A4 (by decide)).pad (pad_rep [] (.int (0 : Int32)) 1)
  show Go _ _ _ _ _ T4 (mkF m 3 #[.val (.int (1 : Int32)), .val (.long p2), .second, .val (.int p3), .val (.int p4), .unset] [(.ref b4)])
  refine own_go (fun t k => XS.astore X4.here hx rfl (hb hby d_method_4_3) rfl rfl (l' := #[.val (.int (1 : Int32)), .val (.long p2), .second, .val (.int p3), .val (.int p4), .val (.ref b4)]) rfl k) ?_
  show Go _ _ _ _ _ T4 (mkF m 5 #[.val (.int (1 : Int32)), .val (.long p2), .second, .val (.int p3), .val (.int p4), .val (.ref b4)] [])
  refine own_go (fun t k => XS.iloadN X4.here hx rfl (hb hby d_method_4_5) rfl k) ?_
  show Go _ _ _ _ _ T4 (mkF m 6 #[.val (.int (1 : Int32)), .val (.long p2), .second, .val (.int p3), .val (.int p4), .val (.ref b4)] [(.int (1 : Int32))])
  refine own_go (fun t k => XS.ifNo X4.here hx rfl (hb hby d_method_4_6) rfl (by decide) k) ?_
  show Go _ _ _ _ _ T4 (mkF m 9 #[.val (.int (1 : Int32)), .val (.long p2), .second, .val (.int p3), .val (.int p4), .val (.ref b4)] [])
  refine own_go (fun t k => XS.aload X4.here hx rfl (hb hby d_method_4_9) rfl rfl k) ?_
  show Go _ _ _ _ _ T4 (mkF m 11 #[.val (.int (1 : Int32)), .val (.long p2), .second, .val (.int p3), .val (.int p4), .val (.ref b4)] [(.ref b4)])
  refine own_go (fun t k => XS.iconst X4.here hx rfl (hb hby d_method_4_11) k) ?_
  show Go _ _ _ _ _ T4 (mkF m 12 #[.val (.int (1 : Int32)), .val (.long p2), .second, .val (.int p3), .val (.int p4), .val (.ref b4)] [(.int (0 : Int32)), (.ref b4)])
  refine own_go (fun t k => XS.lloadN X4.here hx rfl (hb hby d_method_4_12) rfl k) ?_
  show Go _ _ _ _ _ T4 (mkF m 13 #[.val (.int (1 : Int32)), .val (.long p2), .second, .val (.int p3), .val (.int p4), .val (.ref b4)] [(.long p2), (.int (0 : Int32)), (.ref b4)])
  refine own_go (fun t k => XS.iconst X4.here hx rfl (hb hby d_method_4_13) k) ?_
  show Go _ _ _ _ _ T4 (mkF m 14 #[.val (.int (1 : Int32)), .val (.long p2), .second, .val (.int p3), .val (.int p4), .val (.ref b4)] [(.int (0 : Int32)), (.long p2), (.int (0 : Int32)), (.ref b4)])
  refine own_go (fun t k => XS.iloadN X4.here hx rfl (hb hby d_method_4_14) rfl k) ?_
  show Go _ _ _ _ _ T4 (mkF m 15 #[.val (.int (1 : Int32)), .val (.long p2), .second, .val (.int p3), .val (.int p4), .val (.ref b4)] [(.int p3), (.int (0 : Int32)), (.long p2), (.int (0 : Int32)), (.ref b4)])
  refine own_go (fun t k => XS.iload X4.here hx rfl (hb hby d_method_4_15) rfl k) ?_
  show Go _ _ _ _ _ T4 (mkF m 17 #[.val (.int (1 : Int32)), .val (.long p2), .second, .val (.int p3), .val (.int p4), .val (.ref b4)] [(.int p4), (.int p3), (.int (0 : Int32)), (.long p2), (.int (0 : Int32)), (.ref b4)])
  refine own_callS X4 hx hZ (y := (⟨"com/example/tallyhouse/tallyhouse/fix/MadeUpMembersHoldsPinLaw", "b", "(JIZB)B"⟩ : MethodName)) hown (hw _ (List.mem_of_getElem? (i := 15) rfl)) (hw _ (List.mem_of_getElem? (i := 16) rfl)) (hw _ (List.mem_of_getElem? (i := 2) rfl)) (hw _ (List.mem_of_getElem? (i := 17) rfl)) (by decide) (rm_b l Z a0 hw [] p2 (0 : Int32) p3 p4 (own_b p2 (0 : Int32) p3 p4) h4 n0 hn4  rfl) e4 (by rw [hml]; rfl) (argsL := [(.long p2), (.int (0 : Int32)), (.int p3), (.int p4)]) (rest := [(.int (0 : Int32)), (.ref b4)]) rfl rfl (lenOf own_pd0 rfl) (W := 2) (Nat.le_of_eq rfl) (by decide) (by decide) (hb hby d_method_4_17) (by decide) (by decide) ?_
  intro v5 T5 L5 X5 q5
  obtain ⟨rfl, N5q, e5⟩ := q5
  have N5 := Fr.app N0 N5q
  show Go _ _ _ _ _ T5 (mkF m 20 #[.val (.int (1 : Int32)), .val (.long p2), .second, .val (.int p3), .val (.int p4), .val (.ref b4)] [(.int (own_b p2 (0 : Int32) p3 p4)), (.int (0 : Int32)), (.ref b4)])
  obtain ⟨cl6, Ar6, q6, S6, N6z, H6, G6⟩ := V4
  have hin6 := inb_of S6 (j := (0 : Int32)) (z := (1 : Int32)) ⟨by decide, by decide⟩
  obtain ⟨T6, h6, X6, e6, W6, st6⟩ := stB X5 hx hZ e5 Ar6 (j := (0 : Int32)) hin6 (g := (mkF m 20 #[.val (.int (1 : Int32)), .val (.long p2), .second, .val (.int p3), .val (.int p4), .val (.ref b4)] [(.int (own_b p2 (0 : Int32) p3 p4)), (.int (0 : Int32)), (.ref b4)])) rfl rfl (hb hby d_method_4_20)
  have V6 : Arv Z h6 b4 k4 .byte (1 : Int32) [(.int (nar .byte (own_b p2 (0 : Int32) p3 p4)))] (.int (0 : Int32)) := Arv.set Ar6 q6 S6 N6z H6 G6 (fits_nar_byte _) W6 0 rfl (Nat.le_of_ble_eq_true rfl)
  have N6 := Fr.snoc X6 N5 g_b4
  have hn6 : n0 ≤ h6.size := Nat.le_trans hn4 (Keep.of_wr W6).1
  have K6 := K4.wr W6 (Or.inr sz_b4)
  refine own_go (fun t k => st6 t k) ?_
  show Go _ _ _ _ _ T6 (mkF m 21 #[.val (.int (1 : Int32)), .val (.long p2), .second, .val (.int p3), .val (.int p4), .val (.ref b4)] [])
  refine own_go (fun t k => XS.iloadN X6.here hx rfl (hb hby d_method_4_21) rfl k) ?_
  show Go _ _ _ _ _ T6 (mkF m 22 #[.val (.int (1 : Int32)), .val (.long p2), .second, .val (.int p3), .val (.int p4), .val (.ref b4)] [(.int (1 : Int32))])
  refine own_go (fun t k => XS.iconst X6.here hx rfl (hb hby d_method_4_22) k) ?_
  show Go _ _ _ _ _ T6 (mkF m 23 #[.val (.int (1 : Int32)), .val (.long p2), .second, .val (.int p3), .val (.int p4), .val (.ref b4)] [(.int (1 : Int32)), (.int (1 : Int32))])
  refine own_go (fun t k => XS.icmpYes X6.here hx rfl (pc0 := 23) (pc' := 38) rfl (hb hby d_method_4_23) rfl (by decide) (by decide) (by decide) k) ?_
  show Go _ _ _ _ _ T6 (mkF m 38 #[.val (.int (1 : Int32)), .val (.long p2), .second, .val (.int p3), .val (.int p4), .val (.ref b4)] [])
  refine own_go (fun t k => XS.iloadN X6.here hx rfl (hb hby d_method_4_38) rfl k) ?_
  show Go _ _ _ _ _ T6 (mkF m 39 #[.val (.int (1 : Int32)), .val (.long p2), .second, .val (.int p3), .val (.int p4), .val (.ref b4)] [(.int (1 : Int32))])
  refine own_go (fun t k => XS.iconst X6.here hx rfl (hb hby d_method_4_39) k) ?_
  show Go _ _ _ _ _ T6 (mkF m 40 #[.val (.int (1 : Int32)), .val (.long p2), .second, .val (.int p3), .val (.int p4), .val (.ref b4)] [(.int (2 : Int32)), (.int (1 : Int32))])
  refine own_go (fun t k => XS.icmpYes X6.here hx rfl (pc0 := 40) (pc' := 55) rfl (hb hby d_method_4_40) rfl (by decide) (by decide) (by decide) k) ?_
  show Go _ _ _ _ _ T6 (mkF m 55 #[.val (.int (1 : Int32)), .val (.long p2), .second, .val (.int p3), .val (.int p4), .val (.ref b4)] [])
  refine own_go (fun t k => XS.iloadN X6.here hx rfl (hb hby d_method_4_55) rfl k) ?_
  show Go _ _ _ _ _ T6 (mkF m 56 #[.val (.int (1 : Int32)), .val (.long p2), .second, .val (.int p3), .val (.int p4), .val (.ref b4)] [(.int (1 : Int32))])
  refine own_go (fun t k => XS.iconst X6.here hx rfl (hb hby d_method_4_56) k) ?_
  show Go _ _ _ _ _ T6 (mkF m 57 #[.val (.int (1 : Int32)), .val (.long p2), .second, .val (.int p3), .val (.int p4), .val (.ref b4)] [(.int (3 : Int32)), (.int (1 : Int32))])
  refine own_go (fun t k => XS.icmpYes X6.here hx rfl (pc0 := 57) (pc' := 72) rfl (hb hby d_method_4_57) rfl (by decide) (by decide) (by decide) k) ?_
  show Go _ _ _ _ _ T6 (mkF m 72 #[.val (.int (1 : Int32)), .val (.long p2), .second, .val (.int p3), .val (.int p4), .val (.ref b4)] [])
  refine own_go (fun t k => XS.iloadN X6.here hx rfl (hb hby d_method_4_72) rfl k) ?_
  show Go _ _ _ _ _ T6 (mkF m 73 #[.val (.int (1 : Int32)), .val (.long p2), .second, .val (.int p3), .val (.int p4), .val (.ref b4)] [(.int (1 : Int32))])
  refine own_go (fun t k => XS.iconst X6.here hx rfl (hb hby d_method_4_73) k) ?_
  show Go _ _ _ _ _ T6 (mkF m 74 #[.val (.int (1 : Int32)), .val (.long p2), .second, .val (.int p3), .val (.int p4), .val (.ref b4)] [(.int (4 : Int32)), (.int (1 : Int32))])
  refine own_go (fun t k => XS.icmpYes X6.here hx rfl (pc0 := 74) (pc' := 89) rfl (hb hby d_method_4_74) rfl (by decide) (by decide) (by decide) k) ?_
  show Go _ _ _ _ _ T6 (mkF m 89 #[.val (.int (1 : Int32)), .val (.long p2), .second, .val (.int p3), .val (.int p4), .val (.ref b4)] [])
  refine own_go (fun t k => XS.aload X6.here hx rfl (hb hby d_method_4_89) rfl rfl k) ?_
  show Go _ _ _ _ _ T6 (mkF m 91 #[.val (.int (1 : Int32)), .val (.long p2), .second, .val (.int p3), .val (.int p4), .val (.ref b4)] [(.ref b4)])
  refine own_retA X6 hx (own_lvN X6 hlk (by decide) (by decide)) hret rfl rfl (hb hby d_method_4_91) ?_
  rw [e6]
  exact ⟨_, [(nar .byte (own_b p2 (0 : Int32) p3 p4))], rfl, N6, K6, sz_b4, rfl, Nat.le_of_ble_eq_true rfl, _, V6⟩
theorem d_method_4_26 : Jvm.ClassFile.decode method_4_code 26 = .ok (.aload 5, 2) := by decide +kernel
theorem d_method_4_28 : Jvm.ClassFile.decode method_4_code 28 = .ok (.iconst 1, 1) := by decide +kernel
theorem d_method_4_29 : Jvm.ClassFile.decode method_4_code 29 = .ok (.lload_n 1, 1) := by decide +kernel
theorem d_method_4_30 : Jvm.ClassFile.decode method_4_code 30 = .ok (.iconst 1, 1) := by decide +kernel
theorem d_method_4_31 : Jvm.ClassFile.decode method_4_code 31 = .ok (.iload_n 3, 1) := by decide +kernel
theorem d_method_4_32 : Jvm.ClassFile.decode method_4_code 32 = .ok (.iload 4, 2) := by decide +kernel
theorem d_method_4_34 : Jvm.ClassFile.decode method_4_code 34 = .ok (.invokestatic 23, 3) := by decide +kernel
theorem d_method_4_37 : Jvm.ClassFile.decode method_4_code 37 = .ok (.bastore, 1) := by decide +kernel
theorem own_ef_rm_make_2 (m : MethodId) (x1 : Int64) (x2 : Int32) (x3 : Int32) : entryFrame m #[(.int (2 : Int32)), (.long x1), (.int x2), (.int x3)] 6 = mkF m 0 #[.val (.int (2 : Int32)), .val (.long x1), .second, .val (.int x2), .val (.int x3), .unset] [] := by first | (simp [entryFrame, mkF, argsToLocals, Value.category]; done) | rfl
set_option maxRecDepth 65536 in
set_option maxHeartbeats 40000000 in
theorem rm_make_2 (l : Launch) (Z : State) (a0 : Array Value) (hw : ∀ d ∈ tables_1, d.before a0 Z = true) (ws : List Jvm.Cond) (p2 : Int64) (p3 : Int32) (p4 : Int32) (h0 : Heap) (n0 : Nat) (hn0 : n0 ≤ h0.size)  :
    OwnMet l Z (⟨"com/example/tallyhouse/tallyhouse/fix/MadeUpMembersHoldsPinLaw", "make", "(IJZB)[B"⟩ : MethodName) method_4_code 6 (some (.array .byte)) ws ({ frames := 2, cells := 1, slots := 5, locals := 36 } : Room) #[(.int (2 : Int32)), (.long p2), (.int p3), (.int p4)] h0 (OwnQ_make Z 2 h0 n0) := by
  refine own_body (plainFor_of_name own_pn0) ?_
  intro p e s m below meth c s₁ X0 hx hby hml hret hlk hown0 hnm hZ e0 hs0
  have hown : s.vm.findClass "com/example/tallyhouse/tallyhouse/fix/MadeUpMembersHoldsPinLaw" = some m.cls := hown0
  have N0 := Fr.nil n0
  refine own_entry (own_ef_rm_make_2 m p2 p3 p4) ?_
  have K0 := Keep.refl h0 []
  show Go _ _ _ _ _ s₁ (mkF m 0 #[.val (.int (2 : Int32)), .val (.long p2), .second, .val (.int p3), .val (.int p4), .unset] [])
  refine own_go (fun t k => XS.iloadN X0.here hx rfl (hb hby d_method_4_0) rfl k) ?_
  show Go _ _ _ _ _ s₁ (mkF m 1 #[.val (.int (2 : Int32)), .val (.long p2), .second, .val (.int p3), .val (.int p4), .unset] [(.int (2 : Int32))])
  obtain ⟨T7, h7, k7, X7, e7, E7, A7, st7⟩ := newP X0 hx hZ (hw _ (List.mem_of_getElem? (i := 4) rfl)) e0 (g := (mkF m 1 #[.val (.int (2 : Int32)), .val (.long p2), .second, .val (.int p3), .val (.int p4), .unset] [(.int (2 : Int32))])) rfl (hb hby d_method_4_1) rfl (by decide) (cap := 2) (by decide) (by decide) (by decide) (by decide)
  obtain ⟨b7, g7⟩ : ∃ z, z = h0.size := ⟨_, rfl⟩
  rw [← g7] at A7 st7
  have g_b7 : n0 ≤ b7 := by rw [g7]; exact hn0
  have hn7 : n0 ≤ h7.size := Nat.le_trans hn0 E7.1
  have sz_b7 : h0.size ≤ b7 := by rw [g7]; exact K0.1
  have K7 := K0.ext E7
  refine own_go (fun t k => st7 t k) ?_
  have V7 : Arv Z h7 b7 k7 .byte (2 : Int32) [(.int (0 : Int32)), (.int (0 : Int32))] (.int (0 : Int32)) := (Arv.new A7 (by decide)).pad (pad_rep [] (.int (0 : Int32)) 2)
  show Go _ _ _ _ _ T7 (mkF m 3 #[.val (.int (2 : Int32)), .val (.long p2), .second, .val (.int p3), .val (.int p4), .unset] [(.ref b7)])
  refine own_go (fun t k => XS.astore X7.here hx rfl (hb hby d_method_4_3) rfl rfl (l' := #[.val (.int (2 : Int32)), .val (.long p2), .second, .val (.int p3), .val (.int p4), .val (.ref b7)]) rfl k) ?_
  show Go _ _ _ _ _ T7 (mkF m 5 #[.val (.int (2 : Int32)), .val (.long p2), .second, .val (.int p3), .val (.int p4), .val (.ref b7)] [])
  refine own_go (fun t k => XS.iloadN X7.here hx rfl (hb hby d_method_4_5) rfl k) ?_
  show Go _ _ _ _ _ T7 (mkF m 6 #[.val (.int (2 : Int32)), .val (.long p2), .second, .val (.int p3), .val (.int p4), .val (.ref b7)] [(.int (2 : Int32))])
  refine own_go (fun t k => XS.ifNo X7.here hx rfl (hb hby d_method_4_6) rfl (by decide) k) ?_
  show Go _ _ _ _ _ T7 (mkF m 9 #[.val (.int (2 : Int32)), .val (.long p2), .second, .val (.int p3), .val (.int p4), .val (.ref b7)] [])
  refine own_go (fun t k => XS.aload X7.here hx rfl (hb hby d_method_4_9) rfl rfl k) ?_
  show Go _ _ _ _ _ T7 (mkF m 11 #[.val (.int (2 : Int32)), .val (.long p2), .second, .val (.int p3), .val (.int p4), .val (.ref b7)] [(.ref b7)])
  refine own_go (fun t k => XS.iconst X7.here hx rfl (hb hby d_method_4_11) k) ?_
  show Go _ _ _ _ _ T7 (mkF m 12 #[.val (.int (2 : Int32)), .val (.long p2), .second, .val (.int p3), .val (.int p4), .val (.ref b7)] [(.int (0 : Int32)), (.ref b7)])
  refine own_go (fun t k => XS.lloadN X7.here hx rfl (hb hby d_method_4_12) rfl k) ?_
  show Go _ _ _ _ _ T7 (mkF m 13 #[.val (.int (2 : Int32)), .val (.long p2), .second, .val (.int p3), .val (.int p4), .val (.ref b7)] [(.long p2), (.int (0 : Int32)), (.ref b7)])
  refine own_go (fun t k => XS.iconst X7.here hx rfl (hb hby d_method_4_13) k) ?_
  show Go _ _ _ _ _ T7 (mkF m 14 #[.val (.int (2 : Int32)), .val (.long p2), .second, .val (.int p3), .val (.int p4), .val (.ref b7)] [(.int (0 : Int32)), (.long p2), (.int (0 : Int32)), (.ref b7)])
  refine own_go (fun t k => XS.iloadN X7.here hx rfl (hb hby d_method_4_14) rfl k) ?_
  show Go _ _ _ _ _ T7 (mkF m 15 #[.val (.int (2 : Int32)), .val (.long p2), .second, .val (.int p3), .val (.int p4), .val (.ref b7)] [(.int p3), (.int (0 : Int32)), (.long p2), (.int (0 : Int32)), (.ref b7)])
  refine own_go (fun t k => XS.iload X7.here hx rfl (hb hby d_method_4_15) rfl k) ?_
  show Go _ _ _ _ _ T7 (mkF m 17 #[.val (.int (2 : Int32)), .val (.long p2), .second, .val (.int p3), .val (.int p4), .val (.ref b7)] [(.int p4), (.int p3), (.int (0 : Int32)), (.long p2), (.int (0 : Int32)), (.ref b7)])
  refine own_callS X7 hx hZ (y := (⟨"com/example/tallyhouse/tallyhouse/fix/MadeUpMembersHoldsPinLaw", "b", "(JIZB)B"⟩ : MethodName)) hown (hw _ (List.mem_of_getElem? (i := 15) rfl)) (hw _ (List.mem_of_getElem? (i := 16) rfl)) (hw _ (List.mem_of_getElem? (i := 2) rfl)) (hw _ (List.mem_of_getElem? (i := 17) rfl)) (by decide) (rm_b l Z a0 hw [] p2 (0 : Int32) p3 p4 (own_b p2 (0 : Int32) p3 p4) h7 n0 hn7  rfl) e7 (by rw [hml]; rfl) (argsL := [(.long p2), (.int (0 : Int32)), (.int p3), (.int p4)]) (rest := [(.int (0 : Int32)), (.ref b7)]) rfl rfl (lenOf own_pd0 rfl) (W := 2) (Nat.le_of_eq rfl) (by decide) (by decide) (hb hby d_method_4_17) (by decide) (by decide) ?_
  intro v8 T8 L8 X8 q8
  obtain ⟨rfl, N8q, e8⟩ := q8
  have N8 := Fr.app N0 N8q
  show Go _ _ _ _ _ T8 (mkF m 20 #[.val (.int (2 : Int32)), .val (.long p2), .second, .val (.int p3), .val (.int p4), .val (.ref b7)] [(.int (own_b p2 (0 : Int32) p3 p4)), (.int (0 : Int32)), (.ref b7)])
  obtain ⟨cl9, Ar9, q9, S9, N9z, H9, G9⟩ := V7
  have hin9 := inb_of S9 (j := (0 : Int32)) (z := (2 : Int32)) ⟨by decide, by decide⟩
  obtain ⟨T9, h9, X9, e9, W9, st9⟩ := stB X8 hx hZ e8 Ar9 (j := (0 : Int32)) hin9 (g := (mkF m 20 #[.val (.int (2 : Int32)), .val (.long p2), .second, .val (.int p3), .val (.int p4), .val (.ref b7)] [(.int (own_b p2 (0 : Int32) p3 p4)), (.int (0 : Int32)), (.ref b7)])) rfl rfl (hb hby d_method_4_20)
  have V9 : Arv Z h9 b7 k7 .byte (2 : Int32) [(.int (nar .byte (own_b p2 (0 : Int32) p3 p4))), (.int (0 : Int32))] (.int (0 : Int32)) := Arv.set Ar9 q9 S9 N9z H9 G9 (fits_nar_byte _) W9 0 rfl (Nat.le_of_ble_eq_true rfl)
  have N9 := Fr.snoc X9 N8 g_b7
  have hn9 : n0 ≤ h9.size := Nat.le_trans hn7 (Keep.of_wr W9).1
  have K9 := K7.wr W9 (Or.inr sz_b7)
  refine own_go (fun t k => st9 t k) ?_
  show Go _ _ _ _ _ T9 (mkF m 21 #[.val (.int (2 : Int32)), .val (.long p2), .second, .val (.int p3), .val (.int p4), .val (.ref b7)] [])
  refine own_go (fun t k => XS.iloadN X9.here hx rfl (hb hby d_method_4_21) rfl k) ?_
  show Go _ _ _ _ _ T9 (mkF m 22 #[.val (.int (2 : Int32)), .val (.long p2), .second, .val (.int p3), .val (.int p4), .val (.ref b7)] [(.int (2 : Int32))])
  refine own_go (fun t k => XS.iconst X9.here hx rfl (hb hby d_method_4_22) k) ?_
  show Go _ _ _ _ _ T9 (mkF m 23 #[.val (.int (2 : Int32)), .val (.long p2), .second, .val (.int p3), .val (.int p4), .val (.ref b7)] [(.int (1 : Int32)), (.int (2 : Int32))])
  refine own_go (fun t k => XS.icmpNo X9.here hx rfl (hb hby d_method_4_23) rfl (by decide) k) ?_
  show Go _ _ _ _ _ T9 (mkF m 26 #[.val (.int (2 : Int32)), .val (.long p2), .second, .val (.int p3), .val (.int p4), .val (.ref b7)] [])
  refine own_go (fun t k => XS.aload X9.here hx rfl (hb hby d_method_4_26) rfl rfl k) ?_
  show Go _ _ _ _ _ T9 (mkF m 28 #[.val (.int (2 : Int32)), .val (.long p2), .second, .val (.int p3), .val (.int p4), .val (.ref b7)] [(.ref b7)])
  refine own_go (fun t k => XS.iconst X9.here hx rfl (hb hby d_method_4_28) k) ?_
  show Go _ _ _ _ _ T9 (mkF m 29 #[.val (.int (2 : Int32)), .val (.long p2), .second, .val (.int p3), .val (.int p4), .val (.ref b7)] [(.int (1 : Int32)), (.ref b7)])
  refine own_go (fun t k => XS.lloadN X9.here hx rfl (hb hby d_method_4_29) rfl k) ?_
  show Go _ _ _ _ _ T9 (mkF m 30 #[.val (.int (2 : Int32)), .val (.long p2), .second, .val (.int p3), .val (.int p4), .val (.ref b7)] [(.long p2), (.int (1 : Int32)), (.ref b7)])
  refine own_go (fun t k => XS.iconst X9.here hx rfl (hb hby d_method_4_30) k) ?_
  show Go _ _ _ _ _ T9 (mkF m 31 #[.val (.int (2 : Int32)), .val (.long p2), .second, .val (.int p3), .val (.int p4), .val (.ref b7)] [(.int (1 : Int32)), (.long p2), (.int (1 : Int32)), (.ref b7)])
  refine own_go (fun t k => XS.iloadN X9.here hx rfl (hb hby d_method_4_31) rfl k) ?_
  show Go _ _ _ _ _ T9 (mkF m 32 #[.val (.int (2 : Int32)), .val (.long p2), .second, .val (.int p3), .val (.int p4), .val (.ref b7)] [(.int p3), (.int (1 : Int32)), (.long p2), (.int (1 : Int32)), (.ref b7)])
  refine own_go (fun t k => XS.iload X9.here hx rfl (hb hby d_method_4_32) rfl k) ?_
  show Go _ _ _ _ _ T9 (mkF m 34 #[.val (.int (2 : Int32)), .val (.long p2), .second, .val (.int p3), .val (.int p4), .val (.ref b7)] [(.int p4), (.int p3), (.int (1 : Int32)), (.long p2), (.int (1 : Int32)), (.ref b7)])
  refine own_callS X9 hx hZ (y := (⟨"com/example/tallyhouse/tallyhouse/fix/MadeUpMembersHoldsPinLaw", "b", "(JIZB)B"⟩ : MethodName)) hown (hw _ (List.mem_of_getElem? (i := 15) rfl)) (hw _ (List.mem_of_getElem? (i := 16) rfl)) (hw _ (List.mem_of_getElem? (i := 2) rfl)) (hw _ (List.mem_of_getElem? (i := 17) rfl)) (by decide) (rm_b l Z a0 hw [] p2 (1 : Int32) p3 p4 (own_b p2 (1 : Int32) p3 p4) h9 n0 hn9  rfl) e9 (by rw [hml]; rfl) (argsL := [(.long p2), (.int (1 : Int32)), (.int p3), (.int p4)]) (rest := [(.int (1 : Int32)), (.ref b7)]) rfl rfl (lenOf own_pd0 rfl) (W := 2) (Nat.le_of_eq rfl) (by decide) (by decide) (hb hby d_method_4_34) (by decide) (by decide) ?_
  intro v10 T10 L10 X10 q10
  obtain ⟨rfl, N10q, e10⟩ := q10
  have N10 := Fr.app N9 N10q
  show Go _ _ _ _ _ T10 (mkF m 37 #[.val (.int (2 : Int32)), .val (.long p2), .second, .val (.int p3), .val (.int p4), .val (.ref b7)] [(.int (own_b p2 (1 : Int32) p3 p4)), (.int (1 : Int32)), (.ref b7)])
  obtain ⟨cl11, Ar11, q11, S11, N11z, H11, G11⟩ := V9
  have hin11 := inb_of S11 (j := (1 : Int32)) (z := (2 : Int32)) ⟨by decide, by decide⟩
  obtain ⟨T11, h11, X11, e11, W11, st11⟩ := stB X10 hx hZ e10 Ar11 (j := (1 : Int32)) hin11 (g := (mkF m 37 #[.val (.int (2 : Int32)), .val (.long p2), .second, .val (.int p3), .val (.int p4), .val (.ref b7)] [(.int (own_b p2 (1 : Int32) p3 p4)), (.int (1 : Int32)), (.ref b7)])) rfl rfl (hb hby d_method_4_37)
  have V11 : Arv Z h11 b7 k7 .byte (2 : Int32) [(.int (nar .byte (own_b p2 (0 : Int32) p3 p4))), (.int (nar .byte (own_b p2 (1 : Int32) p3 p4)))] (.int (0 : Int32)) := Arv.set Ar11 q11 S11 N11z H11 G11 (fits_nar_byte _) W11 1 rfl (Nat.le_of_ble_eq_true rfl)
  have N11 := Fr.snoc X11 N10 g_b7
  have hn11 : n0 ≤ h11.size := Nat.le_trans hn9 (Keep.of_wr W11).1
  have K11 := K9.wr W11 (Or.inr sz_b7)
  refine own_go (fun t k => st11 t k) ?_
  show Go _ _ _ _ _ T11 (mkF m 38 #[.val (.int (2 : Int32)), .val (.long p2), .second, .val (.int p3), .val (.int p4), .val (.ref b7)] [])
  refine own_go (fun t k => XS.iloadN X11.here hx rfl (hb hby d_method_4_38) rfl k) ?_
  show Go _ _ _ _ _ T11 (mkF m 39 #[.val (.int (2 : Int32)), .val (.long p2), .second, .val (.int p3), .val (.int p4), .val (.ref b7)] [(.int (2 : Int32))])
  refine own_go (fun t k => XS.iconst X11.here hx rfl (hb hby d_method_4_39) k) ?_
  show Go _ _ _ _ _ T11 (mkF m 40 #[.val (.int (2 : Int32)), .val (.long p2), .second, .val (.int p3), .val (.int p4), .val (.ref b7)] [(.int (2 : Int32)), (.int (2 : Int32))])
  refine own_go (fun t k => XS.icmpYes X11.here hx rfl (pc0 := 40) (pc' := 55) rfl (hb hby d_method_4_40) rfl (by decide) (by decide) (by decide) k) ?_
  show Go _ _ _ _ _ T11 (mkF m 55 #[.val (.int (2 : Int32)), .val (.long p2), .second, .val (.int p3), .val (.int p4), .val (.ref b7)] [])
  refine own_go (fun t k => XS.iloadN X11.here hx rfl (hb hby d_method_4_55) rfl k) ?_
  show Go _ _ _ _ _ T11 (mkF m 56 #[.val (.int (2 : Int32)), .val (.long p2), .second, .val (.int p3), .val (.int p4), .val (.ref b7)] [(.int (2 : Int32))])
  refine own_go (fun t k => XS.iconst X11.here hx rfl (hb hby d_method_4_56) k) ?_
  show Go _ _ _ _ _ T11 (mkF m 57 #[.val (.int (2 : Int32)), .val (.long p2), .second, .val (.int p3), .val (.int p4), .val (.ref b7)] [(.int (3 : Int32)), (.int (2 : Int32))])
  refine own_go (fun t k => XS.icmpYes X11.here hx rfl (pc0 := 57) (pc' := 72) rfl (hb hby d_method_4_57) rfl (by decide) (by decide) (by decide) k) ?_
  show Go _ _ _ _ _ T11 (mkF m 72 #[.val (.int (2 : Int32)), .val (.long p2), .second, .val (.int p3), .val (.int p4), .val (.ref b7)] [])
  refine own_go (fun t k => XS.iloadN X11.here hx rfl (hb hby d_method_4_72) rfl k) ?_
  show Go _ _ _ _ _ T11 (mkF m 73 #[.val (.int (2 : Int32)), .val (.long p2), .second, .val (.int p3), .val (.int p4), .val (.ref b7)] [(.int (2 : Int32))])
  refine own_go (fun t k => XS.iconst X11.here hx rfl (hb hby d_method_4_73) k) ?_
  show Go _ _ _ _ _ T11 (mkF m 74 #[.val (.int (2 : Int32)), .val (.long p2), .second, .val (.int p3), .val (.int p4), .val (.ref b7)] [(.int (4 : Int32)), (.int (2 : Int32))])
  refine own_go (fun t k => XS.icmpYes X11.here hx rfl (pc0 := 74) (pc' := 89) rfl (hb hby d_method_4_74) rfl (by decide) (by decide) (by decide) k) ?_
  show Go _ _ _ _ _ T11 (mkF m 89 #[.val (.int (2 : Int32)), .val (.long p2), .second, .val (.int p3), .val (.int p4), .val (.ref b7)] [])
  refine own_go (fun t k => XS.aload X11.here hx rfl (hb hby d_method_4_89) rfl rfl k) ?_
  show Go _ _ _ _ _ T11 (mkF m 91 #[.val (.int (2 : Int32)), .val (.long p2), .second, .val (.int p3), .val (.int p4), .val (.ref b7)] [(.ref b7)])
  refine own_retA X11 hx (own_lvN X11 hlk (by decide) (by decide)) hret rfl rfl (hb hby d_method_4_91) ?_
  rw [e11]
  exact ⟨_, [(nar .byte (own_b p2 (0 : Int32) p3 p4)), (nar .byte (own_b p2 (1 : Int32) p3 p4))], rfl, N11, K11, sz_b7, rfl, Nat.le_of_ble_eq_true rfl, _, V11⟩
theorem d_method_4_43 : Jvm.ClassFile.decode method_4_code 43 = .ok (.aload 5, 2) := by decide +kernel
theorem d_method_4_45 : Jvm.ClassFile.decode method_4_code 45 = .ok (.iconst 2, 1) := by decide +kernel
theorem d_method_4_46 : Jvm.ClassFile.decode method_4_code 46 = .ok (.lload_n 1, 1) := by decide +kernel
theorem d_method_4_47 : Jvm.ClassFile.decode method_4_code 47 = .ok (.iconst 2, 1) := by decide +kernel
theorem d_method_4_48 : Jvm.ClassFile.decode method_4_code 48 = .ok (.iload_n 3, 1) := by decide +kernel
theorem d_method_4_49 : Jvm.ClassFile.decode method_4_code 49 = .ok (.iload 4, 2) := by decide +kernel
theorem d_method_4_51 : Jvm.ClassFile.decode method_4_code 51 = .ok (.invokestatic 23, 3) := by decide +kernel
theorem d_method_4_54 : Jvm.ClassFile.decode method_4_code 54 = .ok (.bastore, 1) := by decide +kernel
theorem own_ef_rm_make_3 (m : MethodId) (x1 : Int64) (x2 : Int32) (x3 : Int32) : entryFrame m #[(.int (3 : Int32)), (.long x1), (.int x2), (.int x3)] 6 = mkF m 0 #[.val (.int (3 : Int32)), .val (.long x1), .second, .val (.int x2), .val (.int x3), .unset] [] := by first | (simp [entryFrame, mkF, argsToLocals, Value.category]; done) | rfl
set_option maxRecDepth 65536 in
set_option maxHeartbeats 40000000 in
theorem rm_make_3 (l : Launch) (Z : State) (a0 : Array Value) (hw : ∀ d ∈ tables_1, d.before a0 Z = true) (ws : List Jvm.Cond) (p2 : Int64) (p3 : Int32) (p4 : Int32) (h0 : Heap) (n0 : Nat) (hn0 : n0 ≤ h0.size)  :
    OwnMet l Z (⟨"com/example/tallyhouse/tallyhouse/fix/MadeUpMembersHoldsPinLaw", "make", "(IJZB)[B"⟩ : MethodName) method_4_code 6 (some (.array .byte)) ws ({ frames := 2, cells := 1, slots := 5, locals := 36 } : Room) #[(.int (3 : Int32)), (.long p2), (.int p3), (.int p4)] h0 (OwnQ_make Z 3 h0 n0) := by
  refine own_body (plainFor_of_name own_pn0) ?_
  intro p e s m below meth c s₁ X0 hx hby hml hret hlk hown0 hnm hZ e0 hs0
  have hown : s.vm.findClass "com/example/tallyhouse/tallyhouse/fix/MadeUpMembersHoldsPinLaw" = some m.cls := hown0
  have N0 := Fr.nil n0
  refine own_entry (own_ef_rm_make_3 m p2 p3 p4) ?_
  have K0 := Keep.refl h0 []
  show Go _ _ _ _ _ s₁ (mkF m 0 #[.val (.int (3 : Int32)), .val (.long p2), .second, .val (.int p3), .val (.int p4), .unset] [])
  refine own_go (fun t k => XS.iloadN X0.here hx rfl (hb hby d_method_4_0) rfl k) ?_
  show Go _ _ _ _ _ s₁ (mkF m 1 #[.val (.int (3 : Int32)), .val (.long p2), .second, .val (.int p3), .val (.int p4), .unset] [(.int (3 : Int32))])
  obtain ⟨T12, h12, k12, X12, e12, E12, A12, st12⟩ := newP X0 hx hZ (hw _ (List.mem_of_getElem? (i := 4) rfl)) e0 (g := (mkF m 1 #[.val (.int (3 : Int32)), .val (.long p2), .second, .val (.int p3), .val (.int p4), .unset] [(.int (3 : Int32))])) rfl (hb hby d_method_4_1) rfl (by decide) (cap := 3) (by decide) (by decide) (by decide) (by decide)
  obtain ⟨b12, g12⟩ : ∃ z, z = h0.size := ⟨_, rfl⟩
  rw [← g12] at A12 st12
  have g_b12 : n0 ≤ b12 := by rw [g12]; exact hn0
  have hn12 : n0 ≤ h12.size := Nat.le_trans hn0 E12.1
  have sz_b12 : h0.size ≤ b12 := by rw [g12]; exact K0.1
  have K12 := K0.ext E12
  refine own_go (fun t k => st12 t k) ?_
  have V12 : Arv Z h12 b12 k12 .byte (3 : Int32) [(.int (0 : Int32)), (.int (0 : Int32)), (.int (0 : Int32))] (.int (0 : Int32)) := (Arv.new A12 (by decide)).pad (pad_rep [] (.int (0 : Int32)) 3)
  show Go _ _ _ _ _ T12 (mkF m 3 #[.val (.int (3 : Int32)), .val (.long p2), .second, .val (.int p3), .val (.int p4), .unset] [(.ref b12)])
  refine own_go (fun t k => XS.astore X12.here hx rfl (hb hby d_method_4_3) rfl rfl (l' := #[.val (.int (3 : Int32)), .val (.long p2), .second, .val (.int p3), .val (.int p4), .val (.ref b12)]) rfl k) ?_
  show Go _ _ _ _ _ T12 (mkF m 5 #[.val (.int (3 : Int32)), .val (.long p2), .second, .val (.int p3), .val (.int p4), .val (.ref b12)] [])
  refine own_go (fun t k => XS.iloadN X12.here hx rfl (hb hby d_method_4_5) rfl k) ?_
  show Go _ _ _ _ _ T12 (mkF m 6 #[.val (.int (3 : Int32)), .val (.long p2), .second, .val (.int p3), .val (.int p4), .val (.ref b12)] [(.int (3 : Int32))])
  refine own_go (fun t k => XS.ifNo X12.here hx rfl (hb hby d_method_4_6) rfl (by decide) k) ?_
  show Go _ _ _ _ _ T12 (mkF m 9 #[.val (.int (3 : Int32)), .val (.long p2), .second, .val (.int p3), .val (.int p4), .val (.ref b12)] [])
  refine own_go (fun t k => XS.aload X12.here hx rfl (hb hby d_method_4_9) rfl rfl k) ?_
  show Go _ _ _ _ _ T12 (mkF m 11 #[.val (.int (3 : Int32)), .val (.long p2), .second, .val (.int p3), .val (.int p4), .val (.ref b12)] [(.ref b12)])
  refine own_go (fun t k => XS.iconst X12.here hx rfl (hb hby d_method_4_11) k) ?_
  show Go _ _ _ _ _ T12 (mkF m 12 #[.val (.int (3 : Int32)), .val (.long p2), .second, .val (.int p3), .val (.int p4), .val (.ref b12)] [(.int (0 : Int32)), (.ref b12)])
  refine own_go (fun t k => XS.lloadN X12.here hx rfl (hb hby d_method_4_12) rfl k) ?_
  show Go _ _ _ _ _ T12 (mkF m 13 #[.val (.int (3 : Int32)), .val (.long p2), .second, .val (.int p3), .val (.int p4), .val (.ref b12)] [(.long p2), (.int (0 : Int32)), (.ref b12)])
  refine own_go (fun t k => XS.iconst X12.here hx rfl (hb hby d_method_4_13) k) ?_
  show Go _ _ _ _ _ T12 (mkF m 14 #[.val (.int (3 : Int32)), .val (.long p2), .second, .val (.int p3), .val (.int p4), .val (.ref b12)] [(.int (0 : Int32)), (.long p2), (.int (0 : Int32)), (.ref b12)])
  refine own_go (fun t k => XS.iloadN X12.here hx rfl (hb hby d_method_4_14) rfl k) ?_
  show Go _ _ _ _ _ T12 (mkF m 15 #[.val (.int (3 : Int32)), .val (.long p2), .second, .val (.int p3), .val (.int p4), .val (.ref b12)] [(.int p3), (.int (0 : Int32)), (.long p2), (.int (0 : Int32)), (.ref b12)])
  refine own_go (fun t k => XS.iload X12.here hx rfl (hb hby d_method_4_15) rfl k) ?_
  show Go _ _ _ _ _ T12 (mkF m 17 #[.val (.int (3 : Int32)), .val (.long p2), .second, .val (.int p3), .val (.int p4), .val (.ref b12)] [(.int p4), (.int p3), (.int (0 : Int32)), (.long p2), (.int (0 : Int32)), (.ref b12)])
  refine own_callS X12 hx hZ (y := (⟨"com/example/tallyhouse/tallyhouse/fix/MadeUpMembersHoldsPinLaw", "b", "(JIZB)B"⟩ : MethodName)) hown (hw _ (List.mem_of_getElem? (i := 15) rfl)) (hw _ (List.mem_of_getElem? (i := 16) rfl)) (hw _ (List.mem_of_getElem? (i := 2) rfl)) (hw _ (List.mem_of_getElem? (i := 17) rfl)) (by decide) (rm_b l Z a0 hw [] p2 (0 : Int32) p3 p4 (own_b p2 (0 : Int32) p3 p4) h12 n0 hn12  rfl) e12 (by rw [hml]; rfl) (argsL := [(.long p2), (.int (0 : Int32)), (.int p3), (.int p4)]) (rest := [(.int (0 : Int32)), (.ref b12)]) rfl rfl (lenOf own_pd0 rfl) (W := 2) (Nat.le_of_eq rfl) (by decide) (by decide) (hb hby d_method_4_17) (by decide) (by decide) ?_
  intro v13 T13 L13 X13 q13
  obtain ⟨rfl, N13q, e13⟩ := q13
  have N13 := Fr.app N0 N13q
  show Go _ _ _ _ _ T13 (mkF m 20 #[.val (.int (3 : Int32)), .val (.long p2), .second, .val (.int p3), .val (.int p4), .val (.ref b12)] [(.int (own_b p2 (0 : Int32) p3 p4)), (.int (0 : Int32)), (.ref b12)])
  obtain ⟨cl14, Ar14, q14, S14, N14z, H14, G14⟩ := V12
  have hin14 := inb_of S14 (j := (0 : Int32)) (z := (3 : Int32)) ⟨by decide, by decide⟩
  obtain ⟨T14, h14, X14, e14, W14, st14⟩ := stB X13 hx hZ e13 Ar14 (j := (0 : Int32)) hin14 (g := (mkF m 20 #[.val (.int (3 : Int32)), .val (.long p2), .second, .val (.int p3), .val (.int p4), .val (.ref b12)] [(.int (own_b p2 (0 : Int32) p3 p4)), (.int (0 : Int32)), (.ref b12)])) rfl rfl (hb hby d_method_4_20)
  have V14 : Arv Z h14 b12 k12 .byte (3 : Int32) [(.int (nar .byte (own_b p2 (0 : Int32) p3 p4))), (.int (0 : Int32)), (.int (0 : Int32))] (.int (0 : Int32)) := Arv.set Ar14 q14 S14 N14z H14 G14 (fits_nar_byte _) W14 0 rfl (Nat.le_of_ble_eq_true rfl)
  have N14 := Fr.snoc X14 N13 g_b12
  have hn14 : n0 ≤ h14.size := Nat.le_trans hn12 (Keep.of_wr W14).1
  have K14 := K12.wr W14 (Or.inr sz_b12)
  refine own_go (fun t k => st14 t k) ?_
  show Go _ _ _ _ _ T14 (mkF m 21 #[.val (.int (3 : Int32)), .val (.long p2), .second, .val (.int p3), .val (.int p4), .val (.ref b12)] [])
  refine own_go (fun t k => XS.iloadN X14.here hx rfl (hb hby d_method_4_21) rfl k) ?_
  show Go _ _ _ _ _ T14 (mkF m 22 #[.val (.int (3 : Int32)), .val (.long p2), .second, .val (.int p3), .val (.int p4), .val (.ref b12)] [(.int (3 : Int32))])
  refine own_go (fun t k => XS.iconst X14.here hx rfl (hb hby d_method_4_22) k) ?_
  show Go _ _ _ _ _ T14 (mkF m 23 #[.val (.int (3 : Int32)), .val (.long p2), .second, .val (.int p3), .val (.int p4), .val (.ref b12)] [(.int (1 : Int32)), (.int (3 : Int32))])
  refine own_go (fun t k => XS.icmpNo X14.here hx rfl (hb hby d_method_4_23) rfl (by decide) k) ?_
  show Go _ _ _ _ _ T14 (mkF m 26 #[.val (.int (3 : Int32)), .val (.long p2), .second, .val (.int p3), .val (.int p4), .val (.ref b12)] [])
  refine own_go (fun t k => XS.aload X14.here hx rfl (hb hby d_method_4_26) rfl rfl k) ?_
  show Go _ _ _ _ _ T14 (mkF m 28 #[.val (.int (3 : Int32)), .val (.long p2), .second, .val (.int p3), .val (.int p4), .val (.ref b12)] [(.ref b12)])
  refine own_go (fun t k => XS.iconst X14.here hx rfl (hb hby d_method_4_28) k) ?_
  show Go _ _ _ _ _ T14 (mkF m 29 #[.val (.int (3 : Int32)), .val (.long p2), .second, .val (.int p3), .val (.int p4), .val (.ref b12)] [(.int (1 : Int32)), (.ref b12)])
  refine own_go (fun t k => XS.lloadN X14.here hx rfl (hb hby d_method_4_29) rfl k) ?_
  show Go _ _ _ _ _ T14 (mkF m 30 #[.val (.int (3 : Int32)), .val (.long p2), .second, .val (.int p3), .val (.int p4), .val (.ref b12)] [(.long p2), (.int (1 : Int32)), (.ref b12)])
  refine own_go (fun t k => XS.iconst X14.here hx rfl (hb hby d_method_4_30) k) ?_
  show Go _ _ _ _ _ T14 (mkF m 31 #[.val (.int (3 : Int32)), .val (.long p2), .second, .val (.int p3), .val (.int p4), .val (.ref b12)] [(.int (1 : Int32)), (.long p2), (.int (1 : Int32)), (.ref b12)])
  refine own_go (fun t k => XS.iloadN X14.here hx rfl (hb hby d_method_4_31) rfl k) ?_
  show Go _ _ _ _ _ T14 (mkF m 32 #[.val (.int (3 : Int32)), .val (.long p2), .second, .val (.int p3), .val (.int p4), .val (.ref b12)] [(.int p3), (.int (1 : Int32)), (.long p2), (.int (1 : Int32)), (.ref b12)])
  refine own_go (fun t k => XS.iload X14.here hx rfl (hb hby d_method_4_32) rfl k) ?_
  show Go _ _ _ _ _ T14 (mkF m 34 #[.val (.int (3 : Int32)), .val (.long p2), .second, .val (.int p3), .val (.int p4), .val (.ref b12)] [(.int p4), (.int p3), (.int (1 : Int32)), (.long p2), (.int (1 : Int32)), (.ref b12)])
  refine own_callS X14 hx hZ (y := (⟨"com/example/tallyhouse/tallyhouse/fix/MadeUpMembersHoldsPinLaw", "b", "(JIZB)B"⟩ : MethodName)) hown (hw _ (List.mem_of_getElem? (i := 15) rfl)) (hw _ (List.mem_of_getElem? (i := 16) rfl)) (hw _ (List.mem_of_getElem? (i := 2) rfl)) (hw _ (List.mem_of_getElem? (i := 17) rfl)) (by decide) (rm_b l Z a0 hw [] p2 (1 : Int32) p3 p4 (own_b p2 (1 : Int32) p3 p4) h14 n0 hn14  rfl) e14 (by rw [hml]; rfl) (argsL := [(.long p2), (.int (1 : Int32)), (.int p3), (.int p4)]) (rest := [(.int (1 : Int32)), (.ref b12)]) rfl rfl (lenOf own_pd0 rfl) (W := 2) (Nat.le_of_eq rfl) (by decide) (by decide) (hb hby d_method_4_34) (by decide) (by decide) ?_
  intro v15 T15 L15 X15 q15
  obtain ⟨rfl, N15q, e15⟩ := q15
  have N15 := Fr.app N14 N15q
  show Go _ _ _ _ _ T15 (mkF m 37 #[.val (.int (3 : Int32)), .val (.long p2), .second, .val (.int p3), .val (.int p4), .val (.ref b12)] [(.int (own_b p2 (1 : Int32) p3 p4)), (.int (1 : Int32)), (.ref b12)])
  obtain ⟨cl16, Ar16, q16, S16, N16z, H16, G16⟩ := V14
  have hin16 := inb_of S16 (j := (1 : Int32)) (z := (3 : Int32)) ⟨by decide, by decide⟩
  obtain ⟨T16, h16, X16, e16, W16, st16⟩ := stB X15 hx hZ e15 Ar16 (j := (1 : Int32)) hin16 (g := (mkF m 37 #[.val (.int (3 : Int32)), .val (.long p2), .second, .val (.int p3), .val (.int p4), .val (.ref b12)] [(.int (own_b p2 (1 : Int32) p3 p4)), (.int (1 : Int32)), (.ref b12)])) rfl rfl (hb hby d_method_4_37)
  have V16 : Arv Z h16 b12 k12 .byte (3 : Int32) [(.int (nar .byte (own_b p2 (0 : Int32) p3 p4))), (.int (nar .byte (own_b p2 (1 : Int32) p3 p4))), (.int (0 : Int32))] (.int (0 : Int32)) := Arv.set Ar16 q16 S16 N16z H16 G16 (fits_nar_byte _) W16 1 rfl (Nat.le_of_ble_eq_true rfl)
  have N16 := Fr.snoc X16 N15 g_b12
  have hn16 : n0 ≤ h16.size := Nat.le_trans hn14 (Keep.of_wr W16).1
  have K16 := K14.wr W16 (Or.inr sz_b12)
  refine own_go (fun t k => st16 t k) ?_
  show Go _ _ _ _ _ T16 (mkF m 38 #[.val (.int (3 : Int32)), .val (.long p2), .second, .val (.int p3), .val (.int p4), .val (.ref b12)] [])
  refine own_go (fun t k => XS.iloadN X16.here hx rfl (hb hby d_method_4_38) rfl k) ?_
  show Go _ _ _ _ _ T16 (mkF m 39 #[.val (.int (3 : Int32)), .val (.long p2), .second, .val (.int p3), .val (.int p4), .val (.ref b12)] [(.int (3 : Int32))])
  refine own_go (fun t k => XS.iconst X16.here hx rfl (hb hby d_method_4_39) k) ?_
  show Go _ _ _ _ _ T16 (mkF m 40 #[.val (.int (3 : Int32)), .val (.long p2), .second, .val (.int p3), .val (.int p4), .val (.ref b12)] [(.int (2 : Int32)), (.int (3 : Int32))])
  refine own_go (fun t k => XS.icmpNo X16.here hx rfl (hb hby d_method_4_40) rfl (by decide) k) ?_
  show Go _ _ _ _ _ T16 (mkF m 43 #[.val (.int (3 : Int32)), .val (.long p2), .second, .val (.int p3), .val (.int p4), .val (.ref b12)] [])
  refine own_go (fun t k => XS.aload X16.here hx rfl (hb hby d_method_4_43) rfl rfl k) ?_
  show Go _ _ _ _ _ T16 (mkF m 45 #[.val (.int (3 : Int32)), .val (.long p2), .second, .val (.int p3), .val (.int p4), .val (.ref b12)] [(.ref b12)])
  refine own_go (fun t k => XS.iconst X16.here hx rfl (hb hby d_method_4_45) k) ?_
  show Go _ _ _ _ _ T16 (mkF m 46 #[.val (.int (3 : Int32)), .val (.long p2), .second, .val (.int p3), .val (.int p4), .val (.ref b12)] [(.int (2 : Int32)), (.ref b12)])
  refine own_go (fun t k => XS.lloadN X16.here hx rfl (hb hby d_method_4_46) rfl k) ?_
  show Go _ _ _ _ _ T16 (mkF m 47 #[.val (.int (3 : Int32)), .val (.long p2), .second, .val (.int p3), .val (.int p4), .val (.ref b12)] [(.long p2), (.int (2 : Int32)), (.ref b12)])
  refine own_go (fun t k => XS.iconst X16.here hx rfl (hb hby d_method_4_47) k) ?_
  show Go _ _ _ _ _ T16 (mkF m 48 #[.val (.int (3 : Int32)), .val (.long p2), .second, .val (.int p3), .val (.int p4), .val (.ref b12)] [(.int (2 : Int32)), (.long p2), (.int (2 : Int32)), (.ref b12)])
  refine own_go (fun t k => XS.iloadN X16.here hx rfl (hb hby d_method_4_48) rfl k) ?_
  show Go _ _ _ _ _ T16 (mkF m 49 #[.val (.int (3 : Int32)), .val (.long p2), .second, .val (.int p3), .val (.int p4), .val (.ref b12)] [(.int p3), (.int (2 : Int32)), (.long p2), (.int (2 : Int32)), (.ref b12)])
  refine own_go (fun t k => XS.iload X16.here hx rfl (hb hby d_method_4_49) rfl k) ?_
  show Go _ _ _ _ _ T16 (mkF m 51 #[.val (.int (3 : Int32)), .val (.long p2), .second, .val (.int p3), .val (.int p4), .val (.ref b12)] [(.int p4), (.int p3), (.int (2 : Int32)), (.long p2), (.int (2 : Int32)), (.ref b12)])
  refine own_callS X16 hx hZ (y := (⟨"com/example/tallyhouse/tallyhouse/fix/MadeUpMembersHoldsPinLaw", "b", "(JIZB)B"⟩ : MethodName)) hown (hw _ (List.mem_of_getElem? (i := 15) rfl)) (hw _ (List.mem_of_getElem? (i := 16) rfl)) (hw _ (List.mem_of_getElem? (i := 2) rfl)) (hw _ (List.mem_of_getElem? (i := 17) rfl)) (by decide) (rm_b l Z a0 hw [] p2 (2 : Int32) p3 p4 (own_b p2 (2 : Int32) p3 p4) h16 n0 hn16  rfl) e16 (by rw [hml]; rfl) (argsL := [(.long p2), (.int (2 : Int32)), (.int p3), (.int p4)]) (rest := [(.int (2 : Int32)), (.ref b12)]) rfl rfl (lenOf own_pd0 rfl) (W := 2) (Nat.le_of_eq rfl) (by decide) (by decide) (hb hby d_method_4_51) (by decide) (by decide) ?_
  intro v17 T17 L17 X17 q17
  obtain ⟨rfl, N17q, e17⟩ := q17
  have N17 := Fr.app N16 N17q
  show Go _ _ _ _ _ T17 (mkF m 54 #[.val (.int (3 : Int32)), .val (.long p2), .second, .val (.int p3), .val (.int p4), .val (.ref b12)] [(.int (own_b p2 (2 : Int32) p3 p4)), (.int (2 : Int32)), (.ref b12)])
  obtain ⟨cl18, Ar18, q18, S18, N18z, H18, G18⟩ := V16
  have hin18 := inb_of S18 (j := (2 : Int32)) (z := (3 : Int32)) ⟨by decide, by decide⟩
  obtain ⟨T18, h18, X18, e18, W18, st18⟩ := stB X17 hx hZ e17 Ar18 (j := (2 : Int32)) hin18 (g := (mkF m 54 #[.val (.int (3 : Int32)), .val (.long p2), .second, .val (.int p3), .val (.int p4), .val (.ref b12)] [(.int (own_b p2 (2 : Int32) p3 p4)), (.int (2 : Int32)), (.ref b12)])) rfl rfl (hb hby d_method_4_54)
  have V18 : Arv Z h18 b12 k12 .byte (3 : Int32) [(.int (nar .byte (own_b p2 (0 : Int32) p3 p4))), (.int (nar .byte (own_b p2 (1 : Int32) p3 p4))), (.int (nar .byte (own_b p2 (2 : Int32) p3 p4)))] (.int (0 : Int32)) := Arv.set Ar18 q18 S18 N18z H18 G18 (fits_nar_byte _) W18 2 rfl (Nat.le_of_ble_eq_true rfl)
  have N18 := Fr.snoc X18 N17 g_b12
  have hn18 : n0 ≤ h18.size := Nat.le_trans hn16 (Keep.of_wr W18).1
  have K18 := K16.wr W18 (Or.inr sz_b12)
  refine own_go (fun t k => st18 t k) ?_
  show Go _ _ _ _ _ T18 (mkF m 55 #[.val (.int (3 : Int32)), .val (.long p2), .second, .val (.int p3), .val (.int p4), .val (.ref b12)] [])
  refine own_go (fun t k => XS.iloadN X18.here hx rfl (hb hby d_method_4_55) rfl k) ?_
  show Go _ _ _ _ _ T18 (mkF m 56 #[.val (.int (3 : Int32)), .val (.long p2), .second, .val (.int p3), .val (.int p4), .val (.ref b12)] [(.int (3 : Int32))])
  refine own_go (fun t k => XS.iconst X18.here hx rfl (hb hby d_method_4_56) k) ?_
  show Go _ _ _ _ _ T18 (mkF m 57 #[.val (.int (3 : Int32)), .val (.long p2), .second, .val (.int p3), .val (.int p4), .val (.ref b12)] [(.int (3 : Int32)), (.int (3 : Int32))])
  refine own_go (fun t k => XS.icmpYes X18.here hx rfl (pc0 := 57) (pc' := 72) rfl (hb hby d_method_4_57) rfl (by decide) (by decide) (by decide) k) ?_
  show Go _ _ _ _ _ T18 (mkF m 72 #[.val (.int (3 : Int32)), .val (.long p2), .second, .val (.int p3), .val (.int p4), .val (.ref b12)] [])
  refine own_go (fun t k => XS.iloadN X18.here hx rfl (hb hby d_method_4_72) rfl k) ?_
  show Go _ _ _ _ _ T18 (mkF m 73 #[.val (.int (3 : Int32)), .val (.long p2), .second, .val (.int p3), .val (.int p4), .val (.ref b12)] [(.int (3 : Int32))])
  refine own_go (fun t k => XS.iconst X18.here hx rfl (hb hby d_method_4_73) k) ?_
  show Go _ _ _ _ _ T18 (mkF m 74 #[.val (.int (3 : Int32)), .val (.long p2), .second, .val (.int p3), .val (.int p4), .val (.ref b12)] [(.int (4 : Int32)), (.int (3 : Int32))])
  refine own_go (fun t k => XS.icmpYes X18.here hx rfl (pc0 := 74) (pc' := 89) rfl (hb hby d_method_4_74) rfl (by decide) (by decide) (by decide) k) ?_
  show Go _ _ _ _ _ T18 (mkF m 89 #[.val (.int (3 : Int32)), .val (.long p2), .second, .val (.int p3), .val (.int p4), .val (.ref b12)] [])
  refine own_go (fun t k => XS.aload X18.here hx rfl (hb hby d_method_4_89) rfl rfl k) ?_
  show Go _ _ _ _ _ T18 (mkF m 91 #[.val (.int (3 : Int32)), .val (.long p2), .second, .val (.int p3), .val (.int p4), .val (.ref b12)] [(.ref b12)])
  refine own_retA X18 hx (own_lvN X18 hlk (by decide) (by decide)) hret rfl rfl (hb hby d_method_4_91) ?_
  rw [e18]
  exact ⟨_, [(nar .byte (own_b p2 (0 : Int32) p3 p4)), (nar .byte (own_b p2 (1 : Int32) p3 p4)), (nar .byte (own_b p2 (2 : Int32) p3 p4))], rfl, N18, K18, sz_b12, rfl, Nat.le_of_ble_eq_true rfl, _, V18⟩
theorem d_method_4_60 : Jvm.ClassFile.decode method_4_code 60 = .ok (.aload 5, 2) := by decide +kernel
theorem d_method_4_62 : Jvm.ClassFile.decode method_4_code 62 = .ok (.iconst 3, 1) := by decide +kernel
theorem d_method_4_63 : Jvm.ClassFile.decode method_4_code 63 = .ok (.lload_n 1, 1) := by decide +kernel
theorem d_method_4_64 : Jvm.ClassFile.decode method_4_code 64 = .ok (.iconst 3, 1) := by decide +kernel
theorem d_method_4_65 : Jvm.ClassFile.decode method_4_code 65 = .ok (.iload_n 3, 1) := by decide +kernel
theorem d_method_4_66 : Jvm.ClassFile.decode method_4_code 66 = .ok (.iload 4, 2) := by decide +kernel
theorem d_method_4_68 : Jvm.ClassFile.decode method_4_code 68 = .ok (.invokestatic 23, 3) := by decide +kernel
theorem d_method_4_71 : Jvm.ClassFile.decode method_4_code 71 = .ok (.bastore, 1) := by decide +kernel
theorem own_ef_rm_make_4 (m : MethodId) (x1 : Int64) (x2 : Int32) (x3 : Int32) : entryFrame m #[(.int (4 : Int32)), (.long x1), (.int x2), (.int x3)] 6 = mkF m 0 #[.val (.int (4 : Int32)), .val (.long x1), .second, .val (.int x2), .val (.int x3), .unset] [] := by first | (simp [entryFrame, mkF, argsToLocals, Value.category]; done) | rfl
set_option maxRecDepth 65536 in
set_option maxHeartbeats 40000000 in
theorem rm_make_4 (l : Launch) (Z : State) (a0 : Array Value) (hw : ∀ d ∈ tables_1, d.before a0 Z = true) (ws : List Jvm.Cond) (p2 : Int64) (p3 : Int32) (p4 : Int32) (h0 : Heap) (n0 : Nat) (hn0 : n0 ≤ h0.size)  :
    OwnMet l Z (⟨"com/example/tallyhouse/tallyhouse/fix/MadeUpMembersHoldsPinLaw", "make", "(IJZB)[B"⟩ : MethodName) method_4_code 6 (some (.array .byte)) ws ({ frames := 2, cells := 1, slots := 5, locals := 36 } : Room) #[(.int (4 : Int32)), (.long p2), (.int p3), (.int p4)] h0 (OwnQ_make Z 4 h0 n0) := by
  refine own_body (plainFor_of_name own_pn0) ?_
  intro p e s m below meth c s₁ X0 hx hby hml hret hlk hown0 hnm hZ e0 hs0
  have hown : s.vm.findClass "com/example/tallyhouse/tallyhouse/fix/MadeUpMembersHoldsPinLaw" = some m.cls := hown0
  have N0 := Fr.nil n0
  refine own_entry (own_ef_rm_make_4 m p2 p3 p4) ?_
  have K0 := Keep.refl h0 []
  show Go _ _ _ _ _ s₁ (mkF m 0 #[.val (.int (4 : Int32)), .val (.long p2), .second, .val (.int p3), .val (.int p4), .unset] [])
  refine own_go (fun t k => XS.iloadN X0.here hx rfl (hb hby d_method_4_0) rfl k) ?_
  show Go _ _ _ _ _ s₁ (mkF m 1 #[.val (.int (4 : Int32)), .val (.long p2), .second, .val (.int p3), .val (.int p4), .unset] [(.int (4 : Int32))])
  obtain ⟨T19, h19, k19, X19, e19, E19, A19, st19⟩ := newP X0 hx hZ (hw _ (List.mem_of_getElem? (i := 4) rfl)) e0 (g := (mkF m 1 #[.val (.int (4 : Int32)), .val (.long p2), .second, .val (.int p3), .val (.int p4), .unset] [(.int (4 : Int32))])) rfl (hb hby d_method_4_1) rfl (by decide) (cap := 4) (by decide) (by decide) (by decide) (by decide)
  obtain ⟨b19, g19⟩ : ∃ z, z = h0.size := ⟨_, rfl⟩
  rw [← g19] at A19 st19
  have g_b19 : n0 ≤ b19 := by rw [g19]; exact hn0
  have hn19 : n0 ≤ h19.size := Nat.le_trans hn0 E19.1
  have sz_b19 : h0.size ≤ b19 := by rw [g19]; exact K0.1
  have K19 := K0.ext E19
  refine own_go (fun t k => st19 t k) ?_
  have V19 : Arv Z h19 b19 k19 .byte (4 : Int32) [(.int (0 : Int32)), (.int (0 : Int32)), (.int (0 : Int32)), (.int (0 : Int32))] (.int (0 : Int32)) := (Arv.new A19 (by decide)).pad (pad_rep [] (.int (0 : Int32)) 4)
  show Go _ _ _ _ _ T19 (mkF m 3 #[.val (.int (4 : Int32)), .val (.long p2), .second, .val (.int p3), .val (.int p4), .unset] [(.ref b19)])
  refine own_go (fun t k => XS.astore X19.here hx rfl (hb hby d_method_4_3) rfl rfl (l' := #[.val (.int (4 : Int32)), .val (.long p2), .second, .val (.int p3), .val (.int p4), .val (.ref b19)]) rfl k) ?_
  show Go _ _ _ _ _ T19 (mkF m 5 #[.val (.int (4 : Int32)), .val (.long p2), .second, .val (.int p3), .val (.int p4), .val (.ref b19)] [])
  refine own_go (fun t k => XS.iloadN X19.here hx rfl (hb hby d_method_4_5) rfl k) ?_
  show Go _ _ _ _ _ T19 (mkF m 6 #[.val (.int (4 : Int32)), .val (.long p2), .second, .val (.int p3), .val (.int p4), .val (.ref b19)] [(.int (4 : Int32))])
  refine own_go (fun t k => XS.ifNo X19.here hx rfl (hb hby d_method_4_6) rfl (by decide) k) ?_
  show Go _ _ _ _ _ T19 (mkF m 9 #[.val (.int (4 : Int32)), .val (.long p2), .second, .val (.int p3), .val (.int p4), .val (.ref b19)] [])
  refine own_go (fun t k => XS.aload X19.here hx rfl (hb hby d_method_4_9) rfl rfl k) ?_
  show Go _ _ _ _ _ T19 (mkF m 11 #[.val (.int (4 : Int32)), .val (.long p2), .second, .val (.int p3), .val (.int p4), .val (.ref b19)] [(.ref b19)])
  refine own_go (fun t k => XS.iconst X19.here hx rfl (hb hby d_method_4_11) k) ?_
  show Go _ _ _ _ _ T19 (mkF m 12 #[.val (.int (4 : Int32)), .val (.long p2), .second, .val (.int p3), .val (.int p4), .val (.ref b19)] [(.int (0 : Int32)), (.ref b19)])
  refine own_go (fun t k => XS.lloadN X19.here hx rfl (hb hby d_method_4_12) rfl k) ?_
  show Go _ _ _ _ _ T19 (mkF m 13 #[.val (.int (4 : Int32)), .val (.long p2), .second, .val (.int p3), .val (.int p4), .val (.ref b19)] [(.long p2), (.int (0 : Int32)), (.ref b19)])
  refine own_go (fun t k => XS.iconst X19.here hx rfl (hb hby d_method_4_13) k) ?_
  show Go _ _ _ _ _ T19 (mkF m 14 #[.val (.int (4 : Int32)), .val (.long p2), .second, .val (.int p3), .val (.int p4), .val (.ref b19)] [(.int (0 : Int32)), (.long p2), (.int (0 : Int32)), (.ref b19)])
  refine own_go (fun t k => XS.iloadN X19.here hx rfl (hb hby d_method_4_14) rfl k) ?_
  show Go _ _ _ _ _ T19 (mkF m 15 #[.val (.int (4 : Int32)), .val (.long p2), .second, .val (.int p3), .val (.int p4), .val (.ref b19)] [(.int p3), (.int (0 : Int32)), (.long p2), (.int (0 : Int32)), (.ref b19)])
  refine own_go (fun t k => XS.iload X19.here hx rfl (hb hby d_method_4_15) rfl k) ?_
  show Go _ _ _ _ _ T19 (mkF m 17 #[.val (.int (4 : Int32)), .val (.long p2), .second, .val (.int p3), .val (.int p4), .val (.ref b19)] [(.int p4), (.int p3), (.int (0 : Int32)), (.long p2), (.int (0 : Int32)), (.ref b19)])
  refine own_callS X19 hx hZ (y := (⟨"com/example/tallyhouse/tallyhouse/fix/MadeUpMembersHoldsPinLaw", "b", "(JIZB)B"⟩ : MethodName)) hown (hw _ (List.mem_of_getElem? (i := 15) rfl)) (hw _ (List.mem_of_getElem? (i := 16) rfl)) (hw _ (List.mem_of_getElem? (i := 2) rfl)) (hw _ (List.mem_of_getElem? (i := 17) rfl)) (by decide) (rm_b l Z a0 hw [] p2 (0 : Int32) p3 p4 (own_b p2 (0 : Int32) p3 p4) h19 n0 hn19  rfl) e19 (by rw [hml]; rfl) (argsL := [(.long p2), (.int (0 : Int32)), (.int p3), (.int p4)]) (rest := [(.int (0 : Int32)), (.ref b19)]) rfl rfl (lenOf own_pd0 rfl) (W := 2) (Nat.le_of_eq rfl) (by decide) (by decide) (hb hby d_method_4_17) (by decide) (by decide) ?_
  intro v20 T20 L20 X20 q20
  obtain ⟨rfl, N20q, e20⟩ := q20
  have N20 := Fr.app N0 N20q
  show Go _ _ _ _ _ T20 (mkF m 20 #[.val (.int (4 : Int32)), .val (.long p2), .second, .val (.int p3), .val (.int p4), .val (.ref b19)] [(.int (own_b p2 (0 : Int32) p3 p4)), (.int (0 : Int32)), (.ref b19)])
  obtain ⟨cl21, Ar21, q21, S21, N21z, H21, G21⟩ := V19
  have hin21 := inb_of S21 (j := (0 : Int32)) (z := (4 : Int32)) ⟨by decide, by decide⟩
  obtain ⟨T21, h21, X21, e21, W21, st21⟩ := stB X20 hx hZ e20 Ar21 (j := (0 : Int32)) hin21 (g := (mkF m 20 #[.val (.int (4 : Int32)), .val (.long p2), .second, .val (.int p3), .val (.int p4), .val (.ref b19)] [(.int (own_b p2 (0 : Int32) p3 p4)), (.int (0 : Int32)), (.ref b19)])) rfl rfl (hb hby d_method_4_20)
  have V21 : Arv Z h21 b19 k19 .byte (4 : Int32) [(.int (nar .byte (own_b p2 (0 : Int32) p3 p4))), (.int (0 : Int32)), (.int (0 : Int32)), (.int (0 : Int32))] (.int (0 : Int32)) := Arv.set Ar21 q21 S21 N21z H21 G21 (fits_nar_byte _) W21 0 rfl (Nat.le_of_ble_eq_true rfl)
  have N21 := Fr.snoc X21 N20 g_b19
  have hn21 : n0 ≤ h21.size := Nat.le_trans hn19 (Keep.of_wr W21).1
  have K21 := K19.wr W21 (Or.inr sz_b19)
  refine own_go (fun t k => st21 t k) ?_
  show Go _ _ _ _ _ T21 (mkF m 21 #[.val (.int (4 : Int32)), .val (.long p2), .second, .val (.int p3), .val (.int p4), .val (.ref b19)] [])
  refine own_go (fun t k => XS.iloadN X21.here hx rfl (hb hby d_method_4_21) rfl k) ?_
  show Go _ _ _ _ _ T21 (mkF m 22 #[.val (.int (4 : Int32)), .val (.long p2), .second, .val (.int p3), .val (.int p4), .val (.ref b19)] [(.int (4 : Int32))])
  refine own_go (fun t k => XS.iconst X21.here hx rfl (hb hby d_method_4_22) k) ?_
  show Go _ _ _ _ _ T21 (mkF m 23 #[.val (.int (4 : Int32)), .val (.long p2), .second, .val (.int p3), .val (.int p4), .val (.ref b19)] [(.int (1 : Int32)), (.int (4 : Int32))])
  refine own_go (fun t k => XS.icmpNo X21.here hx rfl (hb hby d_method_4_23) rfl (by decide) k) ?_
  show Go _ _ _ _ _ T21 (mkF m 26 #[.val (.int (4 : Int32)), .val (.long p2), .second, .val (.int p3), .val (.int p4), .val (.ref b19)] [])
  refine own_go (fun t k => XS.aload X21.here hx rfl (hb hby d_method_4_26) rfl rfl k) ?_
  show Go _ _ _ _ _ T21 (mkF m 28 #[.val (.int (4 : Int32)), .val (.long p2), .second, .val (.int p3), .val (.int p4), .val (.ref b19)] [(.ref b19)])
  refine own_go (fun t k => XS.iconst X21.here hx rfl (hb hby d_method_4_28) k) ?_
  show Go _ _ _ _ _ T21 (mkF m 29 #[.val (.int (4 : Int32)), .val (.long p2), .second, .val (.int p3), .val (.int p4), .val (.ref b19)] [(.int (1 : Int32)), (.ref b19)])
  refine own_go (fun t k => XS.lloadN X21.here hx rfl (hb hby d_method_4_29) rfl k) ?_
  show Go _ _ _ _ _ T21 (mkF m 30 #[.val (.int (4 : Int32)), .val (.long p2), .second, .val (.int p3), .val (.int p4), .val (.ref b19)] [(.long p2), (.int (1 : Int32)), (.ref b19)])
  refine own_go (fun t k => XS.iconst X21.here hx rfl (hb hby d_method_4_30) k) ?_
  show Go _ _ _ _ _ T21 (mkF m 31 #[.val (.int (4 : Int32)), .val (.long p2), .second, .val (.int p3), .val (.int p4), .val (.ref b19)] [(.int (1 : Int32)), (.long p2), (.int (1 : Int32)), (.ref b19)])
  refine own_go (fun t k => XS.iloadN X21.here hx rfl (hb hby d_method_4_31) rfl k) ?_
  show Go _ _ _ _ _ T21 (mkF m 32 #[.val (.int (4 : Int32)), .val (.long p2), .second, .val (.int p3), .val (.int p4), .val (.ref b19)] [(.int p3), (.int (1 : Int32)), (.long p2), (.int (1 : Int32)), (.ref b19)])
  refine own_go (fun t k => XS.iload X21.here hx rfl (hb hby d_method_4_32) rfl k) ?_
  show Go _ _ _ _ _ T21 (mkF m 34 #[.val (.int (4 : Int32)), .val (.long p2), .second, .val (.int p3), .val (.int p4), .val (.ref b19)] [(.int p4), (.int p3), (.int (1 : Int32)), (.long p2), (.int (1 : Int32)), (.ref b19)])
  refine own_callS X21 hx hZ (y := (⟨"com/example/tallyhouse/tallyhouse/fix/MadeUpMembersHoldsPinLaw", "b", "(JIZB)B"⟩ : MethodName)) hown (hw _ (List.mem_of_getElem? (i := 15) rfl)) (hw _ (List.mem_of_getElem? (i := 16) rfl)) (hw _ (List.mem_of_getElem? (i := 2) rfl)) (hw _ (List.mem_of_getElem? (i := 17) rfl)) (by decide) (rm_b l Z a0 hw [] p2 (1 : Int32) p3 p4 (own_b p2 (1 : Int32) p3 p4) h21 n0 hn21  rfl) e21 (by rw [hml]; rfl) (argsL := [(.long p2), (.int (1 : Int32)), (.int p3), (.int p4)]) (rest := [(.int (1 : Int32)), (.ref b19)]) rfl rfl (lenOf own_pd0 rfl) (W := 2) (Nat.le_of_eq rfl) (by decide) (by decide) (hb hby d_method_4_34) (by decide) (by decide) ?_
  intro v22 T22 L22 X22 q22
  obtain ⟨rfl, N22q, e22⟩ := q22
  have N22 := Fr.app N21 N22q
  show Go _ _ _ _ _ T22 (mkF m 37 #[.val (.int (4 : Int32)), .val (.long p2), .second, .val (.int p3), .val (.int p4), .val (.ref b19)] [(.int (own_b p2 (1 : Int32) p3 p4)), (.int (1 : Int32)), (.ref b19)])
  obtain ⟨cl23, Ar23, q23, S23, N23z, H23, G23⟩ := V21
  have hin23 := inb_of S23 (j := (1 : Int32)) (z := (4 : Int32)) ⟨by decide, by decide⟩
  obtain ⟨T23, h23, X23, e23, W23, st23⟩ := stB X22 hx hZ e22 Ar23 (j := (1 : Int32)) hin23 (g := (mkF m 37 #[.val (.int (4 : Int32)), .val (.long p2), .second, .val (.int p3), .val (.int p4), .val (.ref b19)] [(.int (own_b p2 (1 : Int32) p3 p4)), (.int (1 : Int32)), (.ref b19)])) rfl rfl (hb hby d_method_4_37)
  have V23 : Arv Z h23 b19 k19 .byte (4 : Int32) [(.int (nar .byte (own_b p2 (0 : Int32) p3 p4))), (.int (nar .byte (own_b p2 (1 : Int32) p3 p4))), (.int (0 : Int32)), (.int (0 : Int32))] (.int (0 : Int32)) := Arv.set Ar23 q23 S23 N23z H23 G23 (fits_nar_byte _) W23 1 rfl (Nat.le_of_ble_eq_true rfl)
  have N23 := Fr.snoc X23 N22 g_b19
  have hn23 : n0 ≤ h23.size := Nat.le_trans hn21 (Keep.of_wr W23).1
  have K23 := K21.wr W23 (Or.inr sz_b19)
  refine own_go (fun t k => st23 t k) ?_
  show Go _ _ _ _ _ T23 (mkF m 38 #[.val (.int (4 : Int32)), .val (.long p2), .second, .val (.int p3), .val (.int p4), .val (.ref b19)] [])
  refine own_go (fun t k => XS.iloadN X23.here hx rfl (hb hby d_method_4_38) rfl k) ?_
  show Go _ _ _ _ _ T23 (mkF m 39 #[.val (.int (4 : Int32)), .val (.long p2), .second, .val (.int p3), .val (.int p4), .val (.ref b19)] [(.int (4 : Int32))])
  refine own_go (fun t k => XS.iconst X23.here hx rfl (hb hby d_method_4_39) k) ?_
  show Go _ _ _ _ _ T23 (mkF m 40 #[.val (.int (4 : Int32)), .val (.long p2), .second, .val (.int p3), .val (.int p4), .val (.ref b19)] [(.int (2 : Int32)), (.int (4 : Int32))])
  refine own_go (fun t k => XS.icmpNo X23.here hx rfl (hb hby d_method_4_40) rfl (by decide) k) ?_
  show Go _ _ _ _ _ T23 (mkF m 43 #[.val (.int (4 : Int32)), .val (.long p2), .second, .val (.int p3), .val (.int p4), .val (.ref b19)] [])
  refine own_go (fun t k => XS.aload X23.here hx rfl (hb hby d_method_4_43) rfl rfl k) ?_
  show Go _ _ _ _ _ T23 (mkF m 45 #[.val (.int (4 : Int32)), .val (.long p2), .second, .val (.int p3), .val (.int p4), .val (.ref b19)] [(.ref b19)])
  refine own_go (fun t k => XS.iconst X23.here hx rfl (hb hby d_method_4_45) k) ?_
  show Go _ _ _ _ _ T23 (mkF m 46 #[.val (.int (4 : Int32)), .val (.long p2), .second, .val (.int p3), .val (.int p4), .val (.ref b19)] [(.int (2 : Int32)), (.ref b19)])
  refine own_go (fun t k => XS.lloadN X23.here hx rfl (hb hby d_method_4_46) rfl k) ?_
  show Go _ _ _ _ _ T23 (mkF m 47 #[.val (.int (4 : Int32)), .val (.long p2), .second, .val (.int p3), .val (.int p4), .val (.ref b19)] [(.long p2), (.int (2 : Int32)), (.ref b19)])
  refine own_go (fun t k => XS.iconst X23.here hx rfl (hb hby d_method_4_47) k) ?_
  show Go _ _ _ _ _ T23 (mkF m 48 #[.val (.int (4 : Int32)), .val (.long p2), .second, .val (.int p3), .val (.int p4), .val (.ref b19)] [(.int (2 : Int32)), (.long p2), (.int (2 : Int32)), (.ref b19)])
  refine own_go (fun t k => XS.iloadN X23.here hx rfl (hb hby d_method_4_48) rfl k) ?_
  show Go _ _ _ _ _ T23 (mkF m 49 #[.val (.int (4 : Int32)), .val (.long p2), .second, .val (.int p3), .val (.int p4), .val (.ref b19)] [(.int p3), (.int (2 : Int32)), (.long p2), (.int (2 : Int32)), (.ref b19)])
  refine own_go (fun t k => XS.iload X23.here hx rfl (hb hby d_method_4_49) rfl k) ?_
  show Go _ _ _ _ _ T23 (mkF m 51 #[.val (.int (4 : Int32)), .val (.long p2), .second, .val (.int p3), .val (.int p4), .val (.ref b19)] [(.int p4), (.int p3), (.int (2 : Int32)), (.long p2), (.int (2 : Int32)), (.ref b19)])
  refine own_callS X23 hx hZ (y := (⟨"com/example/tallyhouse/tallyhouse/fix/MadeUpMembersHoldsPinLaw", "b", "(JIZB)B"⟩ : MethodName)) hown (hw _ (List.mem_of_getElem? (i := 15) rfl)) (hw _ (List.mem_of_getElem? (i := 16) rfl)) (hw _ (List.mem_of_getElem? (i := 2) rfl)) (hw _ (List.mem_of_getElem? (i := 17) rfl)) (by decide) (rm_b l Z a0 hw [] p2 (2 : Int32) p3 p4 (own_b p2 (2 : Int32) p3 p4) h23 n0 hn23  rfl) e23 (by rw [hml]; rfl) (argsL := [(.long p2), (.int (2 : Int32)), (.int p3), (.int p4)]) (rest := [(.int (2 : Int32)), (.ref b19)]) rfl rfl (lenOf own_pd0 rfl) (W := 2) (Nat.le_of_eq rfl) (by decide) (by decide) (hb hby d_method_4_51) (by decide) (by decide) ?_
  intro v24 T24 L24 X24 q24
  obtain ⟨rfl, N24q, e24⟩ := q24
  have N24 := Fr.app N23 N24q
  show Go _ _ _ _ _ T24 (mkF m 54 #[.val (.int (4 : Int32)), .val (.long p2), .second, .val (.int p3), .val (.int p4), .val (.ref b19)] [(.int (own_b p2 (2 : Int32) p3 p4)), (.int (2 : Int32)), (.ref b19)])
  obtain ⟨cl25, Ar25, q25, S25, N25z, H25, G25⟩ := V23
  have hin25 := inb_of S25 (j := (2 : Int32)) (z := (4 : Int32)) ⟨by decide, by decide⟩
  obtain ⟨T25, h25, X25, e25, W25, st25⟩ := stB X24 hx hZ e24 Ar25 (j := (2 : Int32)) hin25 (g := (mkF m 54 #[.val (.int (4 : Int32)), .val (.long p2), .second, .val (.int p3), .val (.int p4), .val (.ref b19)] [(.int (own_b p2 (2 : Int32) p3 p4)), (.int (2 : Int32)), (.ref b19)])) rfl rfl (hb hby d_method_4_54)
  have V25 : Arv Z h25 b19 k19 .byte (4 : Int32) [(.int (nar .byte (own_b p2 (0 : Int32) p3 p4))), (.int (nar .byte (own_b p2 (1 : Int32) p3 p4))), (.int (nar .byte (own_b p2 (2 : Int32) p3 p4))), (.int (0 : Int32))] (.int (0 : Int32)) := Arv.set Ar25 q25 S25 N25z H25 G25 (fits_nar_byte _) W25 2 rfl (Nat.le_of_ble_eq_true rfl)
  have N25 := Fr.snoc X25 N24 g_b19
  have hn25 : n0 ≤ h25.size := Nat.le_trans hn23 (Keep.of_wr W25).1
  have K25 := K23.wr W25 (Or.inr sz_b19)
  refine own_go (fun t k => st25 t k) ?_
  show Go _ _ _ _ _ T25 (mkF m 55 #[.val (.int (4 : Int32)), .val (.long p2), .second, .val (.int p3), .val (.int p4), .val (.ref b19)] [])
  refine own_go (fun t k => XS.iloadN X25.here hx rfl (hb hby d_method_4_55) rfl k) ?_
  show Go _ _ _ _ _ T25 (mkF m 56 #[.val (.int (4 : Int32)), .val (.long p2), .second, .val (.int p3), .val (.int p4), .val (.ref b19)] [(.int (4 : Int32))])
  refine own_go (fun t k => XS.iconst X25.here hx rfl (hb hby d_method_4_56) k) ?_
  show Go _ _ _ _ _ T25 (mkF m 57 #[.val (.int (4 : Int32)), .val (.long p2), .second, .val (.int p3), .val (.int p4), .val (.ref b19)] [(.int (3 : Int32)), (.int (4 : Int32))])
  refine own_go (fun t k => XS.icmpNo X25.here hx rfl (hb hby d_method_4_57) rfl (by decide) k) ?_
  show Go _ _ _ _ _ T25 (mkF m 60 #[.val (.int (4 : Int32)), .val (.long p2), .second, .val (.int p3), .val (.int p4), .val (.ref b19)] [])
  refine own_go (fun t k => XS.aload X25.here hx rfl (hb hby d_method_4_60) rfl rfl k) ?_
  show Go _ _ _ _ _ T25 (mkF m 62 #[.val (.int (4 : Int32)), .val (.long p2), .second, .val (.int p3), .val (.int p4), .val (.ref b19)] [(.ref b19)])
  refine own_go (fun t k => XS.iconst X25.here hx rfl (hb hby d_method_4_62) k) ?_
  show Go _ _ _ _ _ T25 (mkF m 63 #[.val (.int (4 : Int32)), .val (.long p2), .second, .val (.int p3), .val (.int p4), .val (.ref b19)] [(.int (3 : Int32)), (.ref b19)])
  refine own_go (fun t k => XS.lloadN X25.here hx rfl (hb hby d_method_4_63) rfl k) ?_
  show Go _ _ _ _ _ T25 (mkF m 64 #[.val (.int (4 : Int32)), .val (.long p2), .second, .val (.int p3), .val (.int p4), .val (.ref b19)] [(.long p2), (.int (3 : Int32)), (.ref b19)])
  refine own_go (fun t k => XS.iconst X25.here hx rfl (hb hby d_method_4_64) k) ?_
  show Go _ _ _ _ _ T25 (mkF m 65 #[.val (.int (4 : Int32)), .val (.long p2), .second, .val (.int p3), .val (.int p4), .val (.ref b19)] [(.int (3 : Int32)), (.long p2), (.int (3 : Int32)), (.ref b19)])
  refine own_go (fun t k => XS.iloadN X25.here hx rfl (hb hby d_method_4_65) rfl k) ?_
  show Go _ _ _ _ _ T25 (mkF m 66 #[.val (.int (4 : Int32)), .val (.long p2), .second, .val (.int p3), .val (.int p4), .val (.ref b19)] [(.int p3), (.int (3 : Int32)), (.long p2), (.int (3 : Int32)), (.ref b19)])
  refine own_go (fun t k => XS.iload X25.here hx rfl (hb hby d_method_4_66) rfl k) ?_
  show Go _ _ _ _ _ T25 (mkF m 68 #[.val (.int (4 : Int32)), .val (.long p2), .second, .val (.int p3), .val (.int p4), .val (.ref b19)] [(.int p4), (.int p3), (.int (3 : Int32)), (.long p2), (.int (3 : Int32)), (.ref b19)])
  refine own_callS X25 hx hZ (y := (⟨"com/example/tallyhouse/tallyhouse/fix/MadeUpMembersHoldsPinLaw", "b", "(JIZB)B"⟩ : MethodName)) hown (hw _ (List.mem_of_getElem? (i := 15) rfl)) (hw _ (List.mem_of_getElem? (i := 16) rfl)) (hw _ (List.mem_of_getElem? (i := 2) rfl)) (hw _ (List.mem_of_getElem? (i := 17) rfl)) (by decide) (rm_b l Z a0 hw [] p2 (3 : Int32) p3 p4 (own_b p2 (3 : Int32) p3 p4) h25 n0 hn25  rfl) e25 (by rw [hml]; rfl) (argsL := [(.long p2), (.int (3 : Int32)), (.int p3), (.int p4)]) (rest := [(.int (3 : Int32)), (.ref b19)]) rfl rfl (lenOf own_pd0 rfl) (W := 2) (Nat.le_of_eq rfl) (by decide) (by decide) (hb hby d_method_4_68) (by decide) (by decide) ?_
  intro v26 T26 L26 X26 q26
  obtain ⟨rfl, N26q, e26⟩ := q26
  have N26 := Fr.app N25 N26q
  show Go _ _ _ _ _ T26 (mkF m 71 #[.val (.int (4 : Int32)), .val (.long p2), .second, .val (.int p3), .val (.int p4), .val (.ref b19)] [(.int (own_b p2 (3 : Int32) p3 p4)), (.int (3 : Int32)), (.ref b19)])
  obtain ⟨cl27, Ar27, q27, S27, N27z, H27, G27⟩ := V25
  have hin27 := inb_of S27 (j := (3 : Int32)) (z := (4 : Int32)) ⟨by decide, by decide⟩
  obtain ⟨T27, h27, X27, e27, W27, st27⟩ := stB X26 hx hZ e26 Ar27 (j := (3 : Int32)) hin27 (g := (mkF m 71 #[.val (.int (4 : Int32)), .val (.long p2), .second, .val (.int p3), .val (.int p4), .val (.ref b19)] [(.int (own_b p2 (3 : Int32) p3 p4)), (.int (3 : Int32)), (.ref b19)])) rfl rfl (hb hby d_method_4_71)
  have V27 : Arv Z h27 b19 k19 .byte (4 : Int32) [(.int (nar .byte (own_b p2 (0 : Int32) p3 p4))), (.int (nar .byte (own_b p2 (1 : Int32) p3 p4))), (.int (nar .byte (own_b p2 (2 : Int32) p3 p4))), (.int (nar .byte (own_b p2 (3 : Int32) p3 p4)))] (.int (0 : Int32)) := Arv.set Ar27 q27 S27 N27z H27 G27 (fits_nar_byte _) W27 3 rfl (Nat.le_of_ble_eq_true rfl)
  have N27 := Fr.snoc X27 N26 g_b19
  have hn27 : n0 ≤ h27.size := Nat.le_trans hn25 (Keep.of_wr W27).1
  have K27 := K25.wr W27 (Or.inr sz_b19)
  refine own_go (fun t k => st27 t k) ?_
  show Go _ _ _ _ _ T27 (mkF m 72 #[.val (.int (4 : Int32)), .val (.long p2), .second, .val (.int p3), .val (.int p4), .val (.ref b19)] [])
  refine own_go (fun t k => XS.iloadN X27.here hx rfl (hb hby d_method_4_72) rfl k) ?_
  show Go _ _ _ _ _ T27 (mkF m 73 #[.val (.int (4 : Int32)), .val (.long p2), .second, .val (.int p3), .val (.int p4), .val (.ref b19)] [(.int (4 : Int32))])
  refine own_go (fun t k => XS.iconst X27.here hx rfl (hb hby d_method_4_73) k) ?_
  show Go _ _ _ _ _ T27 (mkF m 74 #[.val (.int (4 : Int32)), .val (.long p2), .second, .val (.int p3), .val (.int p4), .val (.ref b19)] [(.int (4 : Int32)), (.int (4 : Int32))])
  refine own_go (fun t k => XS.icmpYes X27.here hx rfl (pc0 := 74) (pc' := 89) rfl (hb hby d_method_4_74) rfl (by decide) (by decide) (by decide) k) ?_
  show Go _ _ _ _ _ T27 (mkF m 89 #[.val (.int (4 : Int32)), .val (.long p2), .second, .val (.int p3), .val (.int p4), .val (.ref b19)] [])
  refine own_go (fun t k => XS.aload X27.here hx rfl (hb hby d_method_4_89) rfl rfl k) ?_
  show Go _ _ _ _ _ T27 (mkF m 91 #[.val (.int (4 : Int32)), .val (.long p2), .second, .val (.int p3), .val (.int p4), .val (.ref b19)] [(.ref b19)])
  refine own_retA X27 hx (own_lvN X27 hlk (by decide) (by decide)) hret rfl rfl (hb hby d_method_4_91) ?_
  rw [e27]
  exact ⟨_, [(nar .byte (own_b p2 (0 : Int32) p3 p4)), (nar .byte (own_b p2 (1 : Int32) p3 p4)), (nar .byte (own_b p2 (2 : Int32) p3 p4)), (nar .byte (own_b p2 (3 : Int32) p3 p4))], rfl, N27, K27, sz_b19, rfl, Nat.le_of_ble_eq_true rfl, _, V27⟩
theorem d_method_4_77 : Jvm.ClassFile.decode method_4_code 77 = .ok (.aload 5, 2) := by decide +kernel
theorem d_method_4_79 : Jvm.ClassFile.decode method_4_code 79 = .ok (.iconst 4, 1) := by decide +kernel
theorem d_method_4_80 : Jvm.ClassFile.decode method_4_code 80 = .ok (.lload_n 1, 1) := by decide +kernel
theorem d_method_4_81 : Jvm.ClassFile.decode method_4_code 81 = .ok (.iconst 4, 1) := by decide +kernel
theorem d_method_4_82 : Jvm.ClassFile.decode method_4_code 82 = .ok (.iload_n 3, 1) := by decide +kernel
theorem d_method_4_83 : Jvm.ClassFile.decode method_4_code 83 = .ok (.iload 4, 2) := by decide +kernel
theorem d_method_4_85 : Jvm.ClassFile.decode method_4_code 85 = .ok (.invokestatic 23, 3) := by decide +kernel
theorem d_method_4_88 : Jvm.ClassFile.decode method_4_code 88 = .ok (.bastore, 1) := by decide +kernel
theorem own_ef_rm_make_5 (m : MethodId) (x1 : Int64) (x2 : Int32) (x3 : Int32) : entryFrame m #[(.int (5 : Int32)), (.long x1), (.int x2), (.int x3)] 6 = mkF m 0 #[.val (.int (5 : Int32)), .val (.long x1), .second, .val (.int x2), .val (.int x3), .unset] [] := by first | (simp [entryFrame, mkF, argsToLocals, Value.category]; done) | rfl
set_option maxRecDepth 65536 in
set_option maxHeartbeats 40000000 in
theorem rm_make_5 (l : Launch) (Z : State) (a0 : Array Value) (hw : ∀ d ∈ tables_1, d.before a0 Z = true) (ws : List Jvm.Cond) (p2 : Int64) (p3 : Int32) (p4 : Int32) (h0 : Heap) (n0 : Nat) (hn0 : n0 ≤ h0.size)  :
    OwnMet l Z (⟨"com/example/tallyhouse/tallyhouse/fix/MadeUpMembersHoldsPinLaw", "make", "(IJZB)[B"⟩ : MethodName) method_4_code 6 (some (.array .byte)) ws ({ frames := 2, cells := 1, slots := 5, locals := 36 } : Room) #[(.int (5 : Int32)), (.long p2), (.int p3), (.int p4)] h0 (OwnQ_make Z 5 h0 n0) := by
  refine own_body (plainFor_of_name own_pn0) ?_
  intro p e s m below meth c s₁ X0 hx hby hml hret hlk hown0 hnm hZ e0 hs0
  have hown : s.vm.findClass "com/example/tallyhouse/tallyhouse/fix/MadeUpMembersHoldsPinLaw" = some m.cls := hown0
  have N0 := Fr.nil n0
  refine own_entry (own_ef_rm_make_5 m p2 p3 p4) ?_
  have K0 := Keep.refl h0 []
  show Go _ _ _ _ _ s₁ (mkF m 0 #[.val (.int (5 : Int32)), .val (.long p2), .second, .val (.int p3), .val (.int p4), .unset] [])
  refine own_go (fun t k => XS.iloadN X0.here hx rfl (hb hby d_method_4_0) rfl k) ?_
  show Go _ _ _ _ _ s₁ (mkF m 1 #[.val (.int (5 : Int32)), .val (.long p2), .second, .val (.int p3), .val (.int p4), .unset] [(.int (5 : Int32))])
  obtain ⟨T28, h28, k28, X28, e28, E28, A28, st28⟩ := newP X0 hx hZ (hw _ (List.mem_of_getElem? (i := 4) rfl)) e0 (g := (mkF m 1 #[.val (.int (5 : Int32)), .val (.long p2), .second, .val (.int p3), .val (.int p4), .unset] [(.int (5 : Int32))])) rfl (hb hby d_method_4_1) rfl (by decide) (cap := 5) (by decide) (by decide) (by decide) (by decide)
  obtain ⟨b28, g28⟩ : ∃ z, z = h0.size := ⟨_, rfl⟩
  rw [← g28] at A28 st28
  have g_b28 : n0 ≤ b28 := by rw [g28]; exact hn0
  have hn28 : n0 ≤ h28.size := Nat.le_trans hn0 E28.1
  have sz_b28 : h0.size ≤ b28 := by rw [g28]; exact K0.1
  have K28 := K0.ext E28
  refine own_go (fun t k => st28 t k) ?_
  have V28 : Arv Z h28 b28 k28 .byte (5 : Int32) [(.int (0 : Int32)), (.int (0 : Int32)), (.int (0 : Int32)), (.int (0 : Int32)), (.int (0 : Int32))] (.int (0 : Int32)) := (Arv.new A28 (by decide)).pad (pad_rep [] (.int (0 : Int32)) 5)
  show Go _ _ _ _ _ T28 (mkF m 3 #[.val (.int (5 : Int32)), .val (.long p2), .second, .val (.int p3), .val (.int p4), .unset] [(.ref b28)])
  refine own_go (fun t k => XS.astore X28.here hx rfl (hb hby d_method_4_3) rfl rfl (l' := #[.val (.int (5 : Int32)), .val (.long p2), .second, .val (.int p3), .val (.int p4), .val (.ref b28)]) rfl k) ?_
  show Go _ _ _ _ _ T28 (mkF m 5 #[.val (.int (5 : Int32)), .val (.long p2), .second, .val (.int p3), .val (.int p4), .val (.ref b28)] [])
  refine own_go (fun t k => XS.iloadN X28.here hx rfl (hb hby d_method_4_5) rfl k) ?_
  show Go _ _ _ _ _ T28 (mkF m 6 #[.val (.int (5 : Int32)), .val (.long p2), .second, .val (.int p3), .val (.int p4), .val (.ref b28)] [(.int (5 : Int32))])
  refine own_go (fun t k => XS.ifNo X28.here hx rfl (hb hby d_method_4_6) rfl (by decide) k) ?_
  show Go _ _ _ _ _ T28 (mkF m 9 #[.val (.int (5 : Int32)), .val (.long p2), .second, .val (.int p3), .val (.int p4), .val (.ref b28)] [])
  refine own_go (fun t k => XS.aload X28.here hx rfl (hb hby d_method_4_9) rfl rfl k) ?_
  show Go _ _ _ _ _ T28 (mkF m 11 #[.val (.int (5 : Int32)), .val (.long p2), .second, .val (.int p3), .val (.int p4), .val (.ref b28)] [(.ref b28)])
  refine own_go (fun t k => XS.iconst X28.here hx rfl (hb hby d_method_4_11) k) ?_
  show Go _ _ _ _ _ T28 (mkF m 12 #[.val (.int (5 : Int32)), .val (.long p2), .second, .val (.int p3), .val (.int p4), .val (.ref b28)] [(.int (0 : Int32)), (.ref b28)])
  refine own_go (fun t k => XS.lloadN X28.here hx rfl (hb hby d_method_4_12) rfl k) ?_
  show Go _ _ _ _ _ T28 (mkF m 13 #[.val (.int (5 : Int32)), .val (.long p2), .second, .val (.int p3), .val (.int p4), .val (.ref b28)] [(.long p2), (.int (0 : Int32)), (.ref b28)])
  refine own_go (fun t k => XS.iconst X28.here hx rfl (hb hby d_method_4_13) k) ?_
  show Go _ _ _ _ _ T28 (mkF m 14 #[.val (.int (5 : Int32)), .val (.long p2), .second, .val (.int p3), .val (.int p4), .val (.ref b28)] [(.int (0 : Int32)), (.long p2), (.int (0 : Int32)), (.ref b28)])
  refine own_go (fun t k => XS.iloadN X28.here hx rfl (hb hby d_method_4_14) rfl k) ?_
  show Go _ _ _ _ _ T28 (mkF m 15 #[.val (.int (5 : Int32)), .val (.long p2), .second, .val (.int p3), .val (.int p4), .val (.ref b28)] [(.int p3), (.int (0 : Int32)), (.long p2), (.int (0 : Int32)), (.ref b28)])
  refine own_go (fun t k => XS.iload X28.here hx rfl (hb hby d_method_4_15) rfl k) ?_
  show Go _ _ _ _ _ T28 (mkF m 17 #[.val (.int (5 : Int32)), .val (.long p2), .second, .val (.int p3), .val (.int p4), .val (.ref b28)] [(.int p4), (.int p3), (.int (0 : Int32)), (.long p2), (.int (0 : Int32)), (.ref b28)])
  refine own_callS X28 hx hZ (y := (⟨"com/example/tallyhouse/tallyhouse/fix/MadeUpMembersHoldsPinLaw", "b", "(JIZB)B"⟩ : MethodName)) hown (hw _ (List.mem_of_getElem? (i := 15) rfl)) (hw _ (List.mem_of_getElem? (i := 16) rfl)) (hw _ (List.mem_of_getElem? (i := 2) rfl)) (hw _ (List.mem_of_getElem? (i := 17) rfl)) (by decide) (rm_b l Z a0 hw [] p2 (0 : Int32) p3 p4 (own_b p2 (0 : Int32) p3 p4) h28 n0 hn28  rfl) e28 (by rw [hml]; rfl) (argsL := [(.long p2), (.int (0 : Int32)), (.int p3), (.int p4)]) (rest := [(.int (0 : Int32)), (.ref b28)]) rfl rfl (lenOf own_pd0 rfl) (W := 2) (Nat.le_of_eq rfl) (by decide) (by decide) (hb hby d_method_4_17) (by decide) (by decide) ?_
  intro v29 T29 L29 X29 q29
  obtain ⟨rfl, N29q, e29⟩ := q29
  have N29 := Fr.app N0 N29q
  show Go _ _ _ _ _ T29 (mkF m 20 #[.val (.int (5 : Int32)), .val (.long p2), .second, .val (.int p3), .val (.int p4), .val (.ref b28)] [(.int (own_b p2 (0 : Int32) p3 p4)), (.int (0 : Int32)), (.ref b28)])
  obtain ⟨cl30, Ar30, q30, S30, N30z, H30, G30⟩ := V28
  have hin30 := inb_of S30 (j := (0 : Int32)) (z := (5 : Int32)) ⟨by decide, by decide⟩
  obtain ⟨T30, h30, X30, e30, W30, st30⟩ := stB X29 hx hZ e29 Ar30 (j := (0 : Int32)) hin30 (g := (mkF m 20 #[.val (.int (5 : Int32)), .val (.long p2), .second, .val (.int p3), .val (.int p4), .val (.ref b28)] [(.int (own_b p2 (0 : Int32) p3 p4)), (.int (0 : Int32)), (.ref b28)])) rfl rfl (hb hby d_method_4_20)
  have V30 : Arv Z h30 b28 k28 .byte (5 : Int32) [(.int (nar .byte (own_b p2 (0 : Int32) p3 p4))), (.int (0 : Int32)), (.int (0 : Int32)), (.int (0 : Int32)), (.int (0 : Int32))] (.int (0 : Int32)) := Arv.set Ar30 q30 S30 N30z H30 G30 (fits_nar_byte _) W30 0 rfl (Nat.le_of_ble_eq_true rfl)
  have N30 := Fr.snoc X30 N29 g_b28
  have hn30 : n0 ≤ h30.size := Nat.le_trans hn28 (Keep.of_wr W30).1
  have K30 := K28.wr W30 (Or.inr sz_b28)
  refine own_go (fun t k => st30 t k) ?_
  show Go _ _ _ _ _ T30 (mkF m 21 #[.val (.int (5 : Int32)), .val (.long p2), .second, .val (.int p3), .val (.int p4), .val (.ref b28)] [])
  refine own_go (fun t k => XS.iloadN X30.here hx rfl (hb hby d_method_4_21) rfl k) ?_
  show Go _ _ _ _ _ T30 (mkF m 22 #[.val (.int (5 : Int32)), .val (.long p2), .second, .val (.int p3), .val (.int p4), .val (.ref b28)] [(.int (5 : Int32))])
  refine own_go (fun t k => XS.iconst X30.here hx rfl (hb hby d_method_4_22) k) ?_
  show Go _ _ _ _ _ T30 (mkF m 23 #[.val (.int (5 : Int32)), .val (.long p2), .second, .val (.int p3), .val (.int p4), .val (.ref b28)] [(.int (1 : Int32)), (.int (5 : Int32))])
  refine own_go (fun t k => XS.icmpNo X30.here hx rfl (hb hby d_method_4_23) rfl (by decide) k) ?_
  show Go _ _ _ _ _ T30 (mkF m 26 #[.val (.int (5 : Int32)), .val (.long p2), .second, .val (.int p3), .val (.int p4), .val (.ref b28)] [])
  refine own_go (fun t k => XS.aload X30.here hx rfl (hb hby d_method_4_26) rfl rfl k) ?_
  show Go _ _ _ _ _ T30 (mkF m 28 #[.val (.int (5 : Int32)), .val (.long p2), .second, .val (.int p3), .val (.int p4), .val (.ref b28)] [(.ref b28)])
  refine own_go (fun t k => XS.iconst X30.here hx rfl (hb hby d_method_4_28) k) ?_
  show Go _ _ _ _ _ T30 (mkF m 29 #[.val (.int (5 : Int32)), .val (.long p2), .second, .val (.int p3), .val (.int p4), .val (.ref b28)] [(.int (1 : Int32)), (.ref b28)])
  refine own_go (fun t k => XS.lloadN X30.here hx rfl (hb hby d_method_4_29) rfl k) ?_
  show Go _ _ _ _ _ T30 (mkF m 30 #[.val (.int (5 : Int32)), .val (.long p2), .second, .val (.int p3), .val (.int p4), .val (.ref b28)] [(.long p2), (.int (1 : Int32)), (.ref b28)])
  refine own_go (fun t k => XS.iconst X30.here hx rfl (hb hby d_method_4_30) k) ?_
  show Go _ _ _ _ _ T30 (mkF m 31 #[.val (.int (5 : Int32)), .val (.long p2), .second, .val (.int p3), .val (.int p4), .val (.ref b28)] [(.int (1 : Int32)), (.long p2), (.int (1 : Int32)), (.ref b28)])
  refine own_go (fun t k => XS.iloadN X30.here hx rfl (hb hby d_method_4_31) rfl k) ?_
  show Go _ _ _ _ _ T30 (mkF m 32 #[.val (.int (5 : Int32)), .val (.long p2), .second, .val (.int p3), .val (.int p4), .val (.ref b28)] [(.int p3), (.int (1 : Int32)), (.long p2), (.int (1 : Int32)), (.ref b28)])
  refine own_go (fun t k => XS.iload X30.here hx rfl (hb hby d_method_4_32) rfl k) ?_
  show Go _ _ _ _ _ T30 (mkF m 34 #[.val (.int (5 : Int32)), .val (.long p2), .second, .val (.int p3), .val (.int p4), .val (.ref b28)] [(.int p4), (.int p3), (.int (1 : Int32)), (.long p2), (.int (1 : Int32)), (.ref b28)])
  refine own_callS X30 hx hZ (y := (⟨"com/example/tallyhouse/tallyhouse/fix/MadeUpMembersHoldsPinLaw", "b", "(JIZB)B"⟩ : MethodName)) hown (hw _ (List.mem_of_getElem? (i := 15) rfl)) (hw _ (List.mem_of_getElem? (i := 16) rfl)) (hw _ (List.mem_of_getElem? (i := 2) rfl)) (hw _ (List.mem_of_getElem? (i := 17) rfl)) (by decide) (rm_b l Z a0 hw [] p2 (1 : Int32) p3 p4 (own_b p2 (1 : Int32) p3 p4) h30 n0 hn30  rfl) e30 (by rw [hml]; rfl) (argsL := [(.long p2), (.int (1 : Int32)), (.int p3), (.int p4)]) (rest := [(.int (1 : Int32)), (.ref b28)]) rfl rfl (lenOf own_pd0 rfl) (W := 2) (Nat.le_of_eq rfl) (by decide) (by decide) (hb hby d_method_4_34) (by decide) (by decide) ?_
  intro v31 T31 L31 X31 q31
  obtain ⟨rfl, N31q, e31⟩ := q31
  have N31 := Fr.app N30 N31q
  show Go _ _ _ _ _ T31 (mkF m 37 #[.val (.int (5 : Int32)), .val (.long p2), .second, .val (.int p3), .val (.int p4), .val (.ref b28)] [(.int (own_b p2 (1 : Int32) p3 p4)), (.int (1 : Int32)), (.ref b28)])
  obtain ⟨cl32, Ar32, q32, S32, N32z, H32, G32⟩ := V30
  have hin32 := inb_of S32 (j := (1 : Int32)) (z := (5 : Int32)) ⟨by decide, by decide⟩
  obtain ⟨T32, h32, X32, e32, W32, st32⟩ := stB X31 hx hZ e31 Ar32 (j := (1 : Int32)) hin32 (g := (mkF m 37 #[.val (.int (5 : Int32)), .val (.long p2), .second, .val (.int p3), .val (.int p4), .val (.ref b28)] [(.int (own_b p2 (1 : Int32) p3 p4)), (.int (1 : Int32)), (.ref b28)])) rfl rfl (hb hby d_method_4_37)
  have V32 : Arv Z h32 b28 k28 .byte (5 : Int32) [(.int (nar .byte (own_b p2 (0 : Int32) p3 p4))), (.int (nar .byte (own_b p2 (1 : Int32) p3 p4))), (.int (0 : Int32)), (.int (0 : Int32)), (.int (0 : Int32))] (.int (0 : Int32)) := Arv.set Ar32 q32 S32 N32z H32 G32 (fits_nar_byte _) W32 1 rfl (Nat.le_of_ble_eq_true rfl)
  have N32 := Fr.snoc X32 N31 g_b28
  have hn32 : n0 ≤ h32.size := Nat.le_trans hn30 (Keep.of_wr W32).1
  have K32 := K30.wr W32 (Or.inr sz_b28)
  refine own_go (fun t k => st32 t k) ?_
  show Go _ _ _ _ _ T32 (mkF m 38 #[.val (.int (5 : Int32)), .val (.long p2), .second, .val (.int p3), .val (.int p4), .val (.ref b28)] [])
  refine own_go (fun t k => XS.iloadN X32.here hx rfl (hb hby d_method_4_38) rfl k) ?_
  show Go _ _ _ _ _ T32 (mkF m 39 #[.val (.int (5 : Int32)), .val (.long p2), .second, .val (.int p3), .val (.int p4), .val (.ref b28)] [(.int (5 : Int32))])
  refine own_go (fun t k => XS.iconst X32.here hx rfl (hb hby d_method_4_39) k) ?_
  show Go _ _ _ _ _ T32 (mkF m 40 #[.val (.int (5 : Int32)), .val (.long p2), .second, .val (.int p3), .val (.int p4), .val (.ref b28)] [(.int (2 : Int32)), (.int (5 : Int32))])
  refine own_go (fun t k => XS.icmpNo X32.here hx rfl (hb hby d_method_4_40) rfl (by decide) k) ?_
  show Go _ _ _ _ _ T32 (mkF m 43 #[.val (.int (5 : Int32)), .val (.long p2), .second, .val (.int p3), .val (.int p4), .val (.ref b28)] [])
  refine own_go (fun t k => XS.aload X32.here hx rfl (hb hby d_method_4_43) rfl rfl k) ?_
  show Go _ _ _ _ _ T32 (mkF m 45 #[.val (.int (5 : Int32)), .val (.long p2), .second, .val (.int p3), .val (.int p4), .val (.ref b28)] [(.ref b28)])
  refine own_go (fun t k => XS.iconst X32.here hx rfl (hb hby d_method_4_45) k) ?_
  show Go _ _ _ _ _ T32 (mkF m 46 #[.val (.int (5 : Int32)), .val (.long p2), .second, .val (.int p3), .val (.int p4), .val (.ref b28)] [(.int (2 : Int32)), (.ref b28)])
  refine own_go (fun t k => XS.lloadN X32.here hx rfl (hb hby d_method_4_46) rfl k) ?_
  show Go _ _ _ _ _ T32 (mkF m 47 #[.val (.int (5 : Int32)), .val (.long p2), .second, .val (.int p3), .val (.int p4), .val (.ref b28)] [(.long p2), (.int (2 : Int32)), (.ref b28)])
  refine own_go (fun t k => XS.iconst X32.here hx rfl (hb hby d_method_4_47) k) ?_
  show Go _ _ _ _ _ T32 (mkF m 48 #[.val (.int (5 : Int32)), .val (.long p2), .second, .val (.int p3), .val (.int p4), .val (.ref b28)] [(.int (2 : Int32)), (.long p2), (.int (2 : Int32)), (.ref b28)])
  refine own_go (fun t k => XS.iloadN X32.here hx rfl (hb hby d_method_4_48) rfl k) ?_
  show Go _ _ _ _ _ T32 (mkF m 49 #[.val (.int (5 : Int32)), .val (.long p2), .second, .val (.int p3), .val (.int p4), .val (.ref b28)] [(.int p3), (.int (2 : Int32)), (.long p2), (.int (2 : Int32)), (.ref b28)])
  refine own_go (fun t k => XS.iload X32.here hx rfl (hb hby d_method_4_49) rfl k) ?_
  show Go _ _ _ _ _ T32 (mkF m 51 #[.val (.int (5 : Int32)), .val (.long p2), .second, .val (.int p3), .val (.int p4), .val (.ref b28)] [(.int p4), (.int p3), (.int (2 : Int32)), (.long p2), (.int (2 : Int32)), (.ref b28)])
  refine own_callS X32 hx hZ (y := (⟨"com/example/tallyhouse/tallyhouse/fix/MadeUpMembersHoldsPinLaw", "b", "(JIZB)B"⟩ : MethodName)) hown (hw _ (List.mem_of_getElem? (i := 15) rfl)) (hw _ (List.mem_of_getElem? (i := 16) rfl)) (hw _ (List.mem_of_getElem? (i := 2) rfl)) (hw _ (List.mem_of_getElem? (i := 17) rfl)) (by decide) (rm_b l Z a0 hw [] p2 (2 : Int32) p3 p4 (own_b p2 (2 : Int32) p3 p4) h32 n0 hn32  rfl) e32 (by rw [hml]; rfl) (argsL := [(.long p2), (.int (2 : Int32)), (.int p3), (.int p4)]) (rest := [(.int (2 : Int32)), (.ref b28)]) rfl rfl (lenOf own_pd0 rfl) (W := 2) (Nat.le_of_eq rfl) (by decide) (by decide) (hb hby d_method_4_51) (by decide) (by decide) ?_
  intro v33 T33 L33 X33 q33
  obtain ⟨rfl, N33q, e33⟩ := q33
  have N33 := Fr.app N32 N33q
  show Go _ _ _ _ _ T33 (mkF m 54 #[.val (.int (5 : Int32)), .val (.long p2), .second, .val (.int p3), .val (.int p4), .val (.ref b28)] [(.int (own_b p2 (2 : Int32) p3 p4)), (.int (2 : Int32)), (.ref b28)])
  obtain ⟨cl34, Ar34, q34, S34, N34z, H34, G34⟩ := V32
  have hin34 := inb_of S34 (j := (2 : Int32)) (z := (5 : Int32)) ⟨by decide, by decide⟩
  obtain ⟨T34, h34, X34, e34, W34, st34⟩ := stB X33 hx hZ e33 Ar34 (j := (2 : Int32)) hin34 (g := (mkF m 54 #[.val (.int (5 : Int32)), .val (.long p2), .second, .val (.int p3), .val (.int p4), .val (.ref b28)] [(.int (own_b p2 (2 : Int32) p3 p4)), (.int (2 : Int32)), (.ref b28)])) rfl rfl (hb hby d_method_4_54)
  have V34 : Arv Z h34 b28 k28 .byte (5 : Int32) [(.int (nar .byte (own_b p2 (0 : Int32) p3 p4))), (.int (nar .byte (own_b p2 (1 : Int32) p3 p4))), (.int (nar .byte (own_b p2 (2 : Int32) p3 p4))), (.int (0 : Int32)), (.int (0 : Int32))] (.int (0 : Int32)) := Arv.set Ar34 q34 S34 N34z H34 G34 (fits_nar_byte _) W34 2 rfl (Nat.le_of_ble_eq_true rfl)
  have N34 := Fr.snoc X34 N33 g_b28
  have hn34 : n0 ≤ h34.size := Nat.le_trans hn32 (Keep.of_wr W34).1
  have K34 := K32.wr W34 (Or.inr sz_b28)
  refine own_go (fun t k => st34 t k) ?_
  show Go _ _ _ _ _ T34 (mkF m 55 #[.val (.int (5 : Int32)), .val (.long p2), .second, .val (.int p3), .val (.int p4), .val (.ref b28)] [])
  refine own_go (fun t k => XS.iloadN X34.here hx rfl (hb hby d_method_4_55) rfl k) ?_
  show Go _ _ _ _ _ T34 (mkF m 56 #[.val (.int (5 : Int32)), .val (.long p2), .second, .val (.int p3), .val (.int p4), .val (.ref b28)] [(.int (5 : Int32))])
  refine own_go (fun t k => XS.iconst X34.here hx rfl (hb hby d_method_4_56) k) ?_
  show Go _ _ _ _ _ T34 (mkF m 57 #[.val (.int (5 : Int32)), .val (.long p2), .second, .val (.int p3), .val (.int p4), .val (.ref b28)] [(.int (3 : Int32)), (.int (5 : Int32))])
  refine own_go (fun t k => XS.icmpNo X34.here hx rfl (hb hby d_method_4_57) rfl (by decide) k) ?_
  show Go _ _ _ _ _ T34 (mkF m 60 #[.val (.int (5 : Int32)), .val (.long p2), .second, .val (.int p3), .val (.int p4), .val (.ref b28)] [])
  refine own_go (fun t k => XS.aload X34.here hx rfl (hb hby d_method_4_60) rfl rfl k) ?_
  show Go _ _ _ _ _ T34 (mkF m 62 #[.val (.int (5 : Int32)), .val (.long p2), .second, .val (.int p3), .val (.int p4), .val (.ref b28)] [(.ref b28)])
  refine own_go (fun t k => XS.iconst X34.here hx rfl (hb hby d_method_4_62) k) ?_
  show Go _ _ _ _ _ T34 (mkF m 63 #[.val (.int (5 : Int32)), .val (.long p2), .second, .val (.int p3), .val (.int p4), .val (.ref b28)] [(.int (3 : Int32)), (.ref b28)])
  refine own_go (fun t k => XS.lloadN X34.here hx rfl (hb hby d_method_4_63) rfl k) ?_
  show Go _ _ _ _ _ T34 (mkF m 64 #[.val (.int (5 : Int32)), .val (.long p2), .second, .val (.int p3), .val (.int p4), .val (.ref b28)] [(.long p2), (.int (3 : Int32)), (.ref b28)])
  refine own_go (fun t k => XS.iconst X34.here hx rfl (hb hby d_method_4_64) k) ?_
  show Go _ _ _ _ _ T34 (mkF m 65 #[.val (.int (5 : Int32)), .val (.long p2), .second, .val (.int p3), .val (.int p4), .val (.ref b28)] [(.int (3 : Int32)), (.long p2), (.int (3 : Int32)), (.ref b28)])
  refine own_go (fun t k => XS.iloadN X34.here hx rfl (hb hby d_method_4_65) rfl k) ?_
  show Go _ _ _ _ _ T34 (mkF m 66 #[.val (.int (5 : Int32)), .val (.long p2), .second, .val (.int p3), .val (.int p4), .val (.ref b28)] [(.int p3), (.int (3 : Int32)), (.long p2), (.int (3 : Int32)), (.ref b28)])
  refine own_go (fun t k => XS.iload X34.here hx rfl (hb hby d_method_4_66) rfl k) ?_
  show Go _ _ _ _ _ T34 (mkF m 68 #[.val (.int (5 : Int32)), .val (.long p2), .second, .val (.int p3), .val (.int p4), .val (.ref b28)] [(.int p4), (.int p3), (.int (3 : Int32)), (.long p2), (.int (3 : Int32)), (.ref b28)])
  refine own_callS X34 hx hZ (y := (⟨"com/example/tallyhouse/tallyhouse/fix/MadeUpMembersHoldsPinLaw", "b", "(JIZB)B"⟩ : MethodName)) hown (hw _ (List.mem_of_getElem? (i := 15) rfl)) (hw _ (List.mem_of_getElem? (i := 16) rfl)) (hw _ (List.mem_of_getElem? (i := 2) rfl)) (hw _ (List.mem_of_getElem? (i := 17) rfl)) (by decide) (rm_b l Z a0 hw [] p2 (3 : Int32) p3 p4 (own_b p2 (3 : Int32) p3 p4) h34 n0 hn34  rfl) e34 (by rw [hml]; rfl) (argsL := [(.long p2), (.int (3 : Int32)), (.int p3), (.int p4)]) (rest := [(.int (3 : Int32)), (.ref b28)]) rfl rfl (lenOf own_pd0 rfl) (W := 2) (Nat.le_of_eq rfl) (by decide) (by decide) (hb hby d_method_4_68) (by decide) (by decide) ?_
  intro v35 T35 L35 X35 q35
  obtain ⟨rfl, N35q, e35⟩ := q35
  have N35 := Fr.app N34 N35q
  show Go _ _ _ _ _ T35 (mkF m 71 #[.val (.int (5 : Int32)), .val (.long p2), .second, .val (.int p3), .val (.int p4), .val (.ref b28)] [(.int (own_b p2 (3 : Int32) p3 p4)), (.int (3 : Int32)), (.ref b28)])
  obtain ⟨cl36, Ar36, q36, S36, N36z, H36, G36⟩ := V34
  have hin36 := inb_of S36 (j := (3 : Int32)) (z := (5 : Int32)) ⟨by decide, by decide⟩
  obtain ⟨T36, h36, X36, e36, W36, st36⟩ := stB X35 hx hZ e35 Ar36 (j := (3 : Int32)) hin36 (g := (mkF m 71 #[.val (.int (5 : Int32)), .val (.long p2), .second, .val (.int p3), .val (.int p4), .val (.ref b28)] [(.int (own_b p2 (3 : Int32) p3 p4)), (.int (3 : Int32)), (.ref b28)])) rfl rfl (hb hby d_method_4_71)
  have V36 : Arv Z h36 b28 k28 .byte (5 : Int32) [(.int (nar .byte (own_b p2 (0 : Int32) p3 p4))), (.int (nar .byte (own_b p2 (1 : Int32) p3 p4))), (.int (nar .byte (own_b p2 (2 : Int32) p3 p4))), (.int (nar .byte (own_b p2 (3 : Int32) p3 p4))), (.int (0 : Int32))] (.int (0 : Int32)) := Arv.set Ar36 q36 S36 N36z H36 G36 (fits_nar_byte _) W36 3 rfl (Nat.le_of_ble_eq_true rfl)
  have N36 := Fr.snoc X36 N35 g_b28
  have hn36 : n0 ≤ h36.size := Nat.le_trans hn34 (Keep.of_wr W36).1
  have K36 := K34.wr W36 (Or.inr sz_b28)
  refine own_go (fun t k => st36 t k) ?_
  show Go _ _ _ _ _ T36 (mkF m 72 #[.val (.int (5 : Int32)), .val (.long p2), .second, .val (.int p3), .val (.int p4), .val (.ref b28)] [])
  refine own_go (fun t k => XS.iloadN X36.here hx rfl (hb hby d_method_4_72) rfl k) ?_
  show Go _ _ _ _ _ T36 (mkF m 73 #[.val (.int (5 : Int32)), .val (.long p2), .second, .val (.int p3), .val (.int p4), .val (.ref b28)] [(.int (5 : Int32))])
  refine own_go (fun t k => XS.iconst X36.here hx rfl (hb hby d_method_4_73) k) ?_
  show Go _ _ _ _ _ T36 (mkF m 74 #[.val (.int (5 : Int32)), .val (.long p2), .second, .val (.int p3), .val (.int p4), .val (.ref b28)] [(.int (4 : Int32)), (.int (5 : Int32))])
  refine own_go (fun t k => XS.icmpNo X36.here hx rfl (hb hby d_method_4_74) rfl (by decide) k) ?_
  show Go _ _ _ _ _ T36 (mkF m 77 #[.val (.int (5 : Int32)), .val (.long p2), .second, .val (.int p3), .val (.int p4), .val (.ref b28)] [])
  refine own_go (fun t k => XS.aload X36.here hx rfl (hb hby d_method_4_77) rfl rfl k) ?_
  show Go _ _ _ _ _ T36 (mkF m 79 #[.val (.int (5 : Int32)), .val (.long p2), .second, .val (.int p3), .val (.int p4), .val (.ref b28)] [(.ref b28)])
  refine own_go (fun t k => XS.iconst X36.here hx rfl (hb hby d_method_4_79) k) ?_
  show Go _ _ _ _ _ T36 (mkF m 80 #[.val (.int (5 : Int32)), .val (.long p2), .second, .val (.int p3), .val (.int p4), .val (.ref b28)] [(.int (4 : Int32)), (.ref b28)])
  refine own_go (fun t k => XS.lloadN X36.here hx rfl (hb hby d_method_4_80) rfl k) ?_
  show Go _ _ _ _ _ T36 (mkF m 81 #[.val (.int (5 : Int32)), .val (.long p2), .second, .val (.int p3), .val (.int p4), .val (.ref b28)] [(.long p2), (.int (4 : Int32)), (.ref b28)])
  refine own_go (fun t k => XS.iconst X36.here hx rfl (hb hby d_method_4_81) k) ?_
  show Go _ _ _ _ _ T36 (mkF m 82 #[.val (.int (5 : Int32)), .val (.long p2), .second, .val (.int p3), .val (.int p4), .val (.ref b28)] [(.int (4 : Int32)), (.long p2), (.int (4 : Int32)), (.ref b28)])
  refine own_go (fun t k => XS.iloadN X36.here hx rfl (hb hby d_method_4_82) rfl k) ?_
  show Go _ _ _ _ _ T36 (mkF m 83 #[.val (.int (5 : Int32)), .val (.long p2), .second, .val (.int p3), .val (.int p4), .val (.ref b28)] [(.int p3), (.int (4 : Int32)), (.long p2), (.int (4 : Int32)), (.ref b28)])
  refine own_go (fun t k => XS.iload X36.here hx rfl (hb hby d_method_4_83) rfl k) ?_
  show Go _ _ _ _ _ T36 (mkF m 85 #[.val (.int (5 : Int32)), .val (.long p2), .second, .val (.int p3), .val (.int p4), .val (.ref b28)] [(.int p4), (.int p3), (.int (4 : Int32)), (.long p2), (.int (4 : Int32)), (.ref b28)])
  refine own_callS X36 hx hZ (y := (⟨"com/example/tallyhouse/tallyhouse/fix/MadeUpMembersHoldsPinLaw", "b", "(JIZB)B"⟩ : MethodName)) hown (hw _ (List.mem_of_getElem? (i := 15) rfl)) (hw _ (List.mem_of_getElem? (i := 16) rfl)) (hw _ (List.mem_of_getElem? (i := 2) rfl)) (hw _ (List.mem_of_getElem? (i := 17) rfl)) (by decide) (rm_b l Z a0 hw [] p2 (4 : Int32) p3 p4 (own_b p2 (4 : Int32) p3 p4) h36 n0 hn36  rfl) e36 (by rw [hml]; rfl) (argsL := [(.long p2), (.int (4 : Int32)), (.int p3), (.int p4)]) (rest := [(.int (4 : Int32)), (.ref b28)]) rfl rfl (lenOf own_pd0 rfl) (W := 2) (Nat.le_of_eq rfl) (by decide) (by decide) (hb hby d_method_4_85) (by decide) (by decide) ?_
  intro v37 T37 L37 X37 q37
  obtain ⟨rfl, N37q, e37⟩ := q37
  have N37 := Fr.app N36 N37q
  show Go _ _ _ _ _ T37 (mkF m 88 #[.val (.int (5 : Int32)), .val (.long p2), .second, .val (.int p3), .val (.int p4), .val (.ref b28)] [(.int (own_b p2 (4 : Int32) p3 p4)), (.int (4 : Int32)), (.ref b28)])
  obtain ⟨cl38, Ar38, q38, S38, N38z, H38, G38⟩ := V36
  have hin38 := inb_of S38 (j := (4 : Int32)) (z := (5 : Int32)) ⟨by decide, by decide⟩
  obtain ⟨T38, h38, X38, e38, W38, st38⟩ := stB X37 hx hZ e37 Ar38 (j := (4 : Int32)) hin38 (g := (mkF m 88 #[.val (.int (5 : Int32)), .val (.long p2), .second, .val (.int p3), .val (.int p4), .val (.ref b28)] [(.int (own_b p2 (4 : Int32) p3 p4)), (.int (4 : Int32)), (.ref b28)])) rfl rfl (hb hby d_method_4_88)
  have V38 : Arv Z h38 b28 k28 .byte (5 : Int32) [(.int (nar .byte (own_b p2 (0 : Int32) p3 p4))), (.int (nar .byte (own_b p2 (1 : Int32) p3 p4))), (.int (nar .byte (own_b p2 (2 : Int32) p3 p4))), (.int (nar .byte (own_b p2 (3 : Int32) p3 p4))), (.int (nar .byte (own_b p2 (4 : Int32) p3 p4)))] (.int (0 : Int32)) := Arv.set Ar38 q38 S38 N38z H38 G38 (fits_nar_byte _) W38 4 rfl (Nat.le_of_ble_eq_true rfl)
  have N38 := Fr.snoc X38 N37 g_b28
  have hn38 : n0 ≤ h38.size := Nat.le_trans hn36 (Keep.of_wr W38).1
  have K38 := K36.wr W38 (Or.inr sz_b28)
  refine own_go (fun t k => st38 t k) ?_
  show Go _ _ _ _ _ T38 (mkF m 89 #[.val (.int (5 : Int32)), .val (.long p2), .second, .val (.int p3), .val (.int p4), .val (.ref b28)] [])
  refine own_go (fun t k => XS.aload X38.here hx rfl (hb hby d_method_4_89) rfl rfl k) ?_
  show Go _ _ _ _ _ T38 (mkF m 91 #[.val (.int (5 : Int32)), .val (.long p2), .second, .val (.int p3), .val (.int p4), .val (.ref b28)] [(.ref b28)])
  refine own_retA X38 hx (own_lvN X38 hlk (by decide) (by decide)) hret rfl rfl (hb hby d_method_4_91) ?_
  rw [e38]
  exact ⟨_, [(nar .byte (own_b p2 (0 : Int32) p3 p4)), (nar .byte (own_b p2 (1 : Int32) p3 p4)), (nar .byte (own_b p2 (2 : Int32) p3 p4)), (nar .byte (own_b p2 (3 : Int32) p3 p4)), (nar .byte (own_b p2 (4 : Int32) p3 p4))], rfl, N38, K38, sz_b28, rfl, Nat.le_of_ble_eq_true rfl, _, V38⟩
theorem rm_make (l : Launch) (Z : State) (a0 : Array Value) (hw : ∀ d ∈ tables_1, d.before a0 Z = true) (ws : List Jvm.Cond) (n : Int32) (p2 : Int64) (p3 p4 : Int32) (h0 : Heap) (n0 : Nat) (hn0 : n0 ≤ h0.size) (hN : n = 0 ∨ n = 1 ∨ n = 2 ∨ n = 3 ∨ n = 4 ∨ n = 5) :
    OwnMet l Z (⟨"com/example/tallyhouse/tallyhouse/fix/MadeUpMembersHoldsPinLaw", "make", "(IJZB)[B"⟩ : MethodName) method_4_code 6 (some (.array .byte)) ws ({ frames := 2, cells := 1, slots := 5, locals := 36 } : Room) #[(.int n), (.long p2), (.int p3), (.int p4)] h0 (OwnQ_make Z n.toNatClampNeg h0 n0) := by
  rcases hN with rfl | rfl | rfl | rfl | rfl | rfl
  · exact rm_make_0 l Z a0 hw ws p2 p3 p4 h0 n0 hn0
  · exact rm_make_1 l Z a0 hw ws p2 p3 p4 h0 n0 hn0
  · exact rm_make_2 l Z a0 hw ws p2 p3 p4 h0 n0 hn0
  · exact rm_make_3 l Z a0 hw ws p2 p3 p4 h0 n0 hn0
  · exact rm_make_4 l Z a0 hw ws p2 p3 p4 h0 n0 hn0
  · exact rm_make_5 l Z a0 hw ws p2 p3 p4 h0 n0 hn0
theorem own_up {n : Int32} (h : n = 0 ∨ n = 1 ∨ n = 2 ∨ n = 3) : n = 0 ∨ n = 1 ∨ n = 2 ∨ n = 3 ∨ n = 4 ∨ n = 5 := by
  rcases h with h | h | h | h
  · exact Or.inl h
  · exact Or.inr (Or.inl h)
  · exact Or.inr (Or.inr (Or.inl h))
  · exact Or.inr (Or.inr (Or.inr (Or.inl h)))
theorem own_len5 {n : Int32} {xs : List Int32} (h : n = 0 ∨ n = 1 ∨ n = 2 ∨ n = 3 ∨ n = 4 ∨ n = 5) (hl : xs.length = n.toNatClampNeg) : xs.length ≤ 5 := by
  rw [hl]; rcases h with rfl | rfl | rfl | rfl | rfl | rfl <;> decide
theorem own_len3 {n : Int32} {xs : List Int32} (h : n = 0 ∨ n = 1 ∨ n = 2 ∨ n = 3) (hl : xs.length = n.toNatClampNeg) : xs.length ≤ 3 := by
  rw [hl]; rcases h with rfl | rfl | rfl | rfl <;> decide
theorem d_method_5_0 : Jvm.ClassFile.decode method_5_code 0 = .ok (.iload_n 3, 1) := by decide +kernel
theorem d_method_5_1 : Jvm.ClassFile.decode method_5_code 1 = .ok (.aload_n 1, 1) := by decide +kernel
theorem d_method_5_2 : Jvm.ClassFile.decode method_5_code 2 = .ok (.arraylength, 1) := by decide +kernel
theorem d_method_5_3 : Jvm.ClassFile.decode method_5_code 3 = .ok (.if_icmp .ge 14, 3) := by decide +kernel
theorem d_method_5_17 : Jvm.ClassFile.decode method_5_code 17 = .ok (.iconst 1, 1) := by decide +kernel
theorem d_method_5_18 : Jvm.ClassFile.decode method_5_code 18 = .ok (.goto 4, 3) := by decide +kernel
theorem d_method_5_22 : Jvm.ClassFile.decode method_5_code 22 = .ok (.ireturn, 1) := by decide +kernel
theorem d_method_5_6 : Jvm.ClassFile.decode method_5_code 6 = .ok (.aload_n 0, 1) := by decide +kernel
theorem d_method_5_7 : Jvm.ClassFile.decode method_5_code 7 = .ok (.iload_n 2, 1) := by decide +kernel
theorem d_method_5_8 : Jvm.ClassFile.decode method_5_code 8 = .ok (.iload_n 3, 1) := by decide +kernel
theorem d_method_5_9 : Jvm.ClassFile.decode method_5_code 9 = .ok (.iadd, 1) := by decide +kernel
theorem d_method_5_10 : Jvm.ClassFile.decode method_5_code 10 = .ok (.baload, 1) := by decide +kernel
theorem d_method_5_11 : Jvm.ClassFile.decode method_5_code 11 = .ok (.aload_n 1, 1) := by decide +kernel
theorem d_method_5_12 : Jvm.ClassFile.decode method_5_code 12 = .ok (.iload_n 3, 1) := by decide +kernel
theorem d_method_5_13 : Jvm.ClassFile.decode method_5_code 13 = .ok (.baload, 1) := by decide +kernel
theorem d_method_5_14 : Jvm.ClassFile.decode method_5_code 14 = .ok (.if_icmp .ne 7, 3) := by decide +kernel
theorem d_method_5_21 : Jvm.ClassFile.decode method_5_code 21 = .ok (.iconst 0, 1) := by decide +kernel
theorem own_ef_rm_eq (m : MethodId) (x0 : Addr) (x1 : Addr) (x2 : Int32) (x3 : Int32) : entryFrame m #[(.ref x0), (.ref x1), (.int x2), (.int x3)] 4 = mkF m 0 #[.val (.ref x0), .val (.ref x1), .val (.int x2), .val (.int x3)] [] := by first | (simp [entryFrame, mkF, argsToLocals, Value.category]; done) | rfl
set_option maxRecDepth 65536 in
set_option maxHeartbeats 40000000 in
theorem rm_eq (l : Launch) (Z : State) (a0 : Array Value) (hw : ∀ d ∈ tables_1, d.before a0 Z = true) (ws : List Jvm.Cond) (a1 : Addr) (a2 : Addr) (xs : List Int32) (ys : List Int32) (i : Nat) (k : Nat) (r : Int32) (h0 : Heap) (n0 : Nat) (hn0 : n0 ≤ h0.size) (B1 : OwnBA Z h0 a1 xs) (B2 : OwnBA Z h0 a2 ys) (hik : i + ys.length ≤ xs.length) (hk3 : k < 3) (hr : own_eqk xs ys i k = r) :
    OwnMet l Z (⟨"com/example/tallyhouse/tallyhouse/fix/MadeUpMembersHoldsPinLaw", "eq", "([B[BII)Z"⟩ : MethodName) method_5_code 4 (some .boolean) ws ({ frames := 0, cells := 0, slots := 0, locals := 0 } : Room) #[(.ref a1), (.ref a2), (.int (Int32.ofNat i)), (.int (Int32.ofNat k))] h0 (OwnP (some (.int r)) h0 n0) := by
  refine own_body (plainFor_of_name own_pn0) ?_
  intro p e s m below meth c s₁ X0 hx hby hml hret hlk hown0 hnm hZ e0 hs0
  have hown : s.vm.findClass "com/example/tallyhouse/tallyhouse/fix/MadeUpMembersHoldsPinLaw" = some m.cls := hown0
  have N0 := Fr.nil n0
  refine own_entry (own_ef_rm_eq m a1 a2 (Int32.ofNat i) (Int32.ofNat k)) ?_
  show Go _ _ _ _ _ s₁ (mkF m 0 #[.val (.ref a1), .val (.ref a2), .val (.int (Int32.ofNat i)), .val (.int (Int32.ofNat k))] [])
  refine own_go (fun t k => XS.iloadN X0.here hx rfl (hb hby d_method_5_0) rfl k) ?_
  show Go _ _ _ _ _ s₁ (mkF m 1 #[.val (.ref a1), .val (.ref a2), .val (.int (Int32.ofNat i)), .val (.int (Int32.ofNat k))] [(.int (Int32.ofNat k))])
  refine own_go (fun t k => XS.aloadN X0.here hx rfl (hb hby d_method_5_1) rfl rfl k) ?_
  show Go _ _ _ _ _ s₁ (mkF m 2 #[.val (.ref a1), .val (.ref a2), .val (.int (Int32.ofNat i)), .val (.int (Int32.ofNat k))] [(.ref a2), (.int (Int32.ofNat k))])
  refine own_alen X0 hx hZ e0 B2 (hb hby d_method_5_2) ?_
  show Go _ _ _ _ _ s₁ (mkF m 3 #[.val (.ref a1), .val (.ref a2), .val (.int (Int32.ofNat i)), .val (.int (Int32.ofNat k))] [(.int (Int32.ofNat ys.length)), (.int (Int32.ofNat k))])
  refine own_icmpM ((Int32.ofNat k) < (Int32.ofNat ys.length)) X0 hx (hb hby d_method_5_3) (own_ge _ _) (by decide) (by decide) (pc' := 17) (fun hc39 => ?_) (fun hc39 => ?_)
  · skip
    show Go _ _ _ _ _ s₁ (mkF m 17 #[.val (.ref a1), .val (.ref a2), .val (.int (Int32.ofNat i)), .val (.int (Int32.ofNat k))] [])
    refine own_go (fun t k => XS.iconst X0.here hx rfl (hb hby d_method_5_17) k) ?_
    show Go _ _ _ _ _ s₁ (mkF m 18 #[.val (.ref a1), .val (.ref a2), .val (.int (Int32.ofNat i)), .val (.int (Int32.ofNat k))] [(.int (1 : Int32))])
    refine own_go (fun t k => XS.goto X0.here hx rfl (pc0 := 18) (pc' := 22) rfl (hb hby d_method_5_18) (by decide) (by decide) k) ?_
    show Go _ _ _ _ _ s₁ (mkF m 22 #[.val (.ref a1), .val (.ref a2), .val (.int (Int32.ofNat i)), .val (.int (Int32.ofNat k))] [(.int (1 : Int32))])
    refine own_retN X0 hx (own_lvN X0 hlk (by decide) (by decide)) (t := .boolean) hret (by simp) (hb hby d_method_5_22) ?_
    refine ⟨?_, N0, e0⟩
    rw [← hr, own_eqk]
    have hb := B2.1
    rw [if_pos (Nat.le_of_not_lt fun q => hc39 ((own_lt_nat (by omega) (by omega)).mpr q))]; rfl
  · skip
    show Go _ _ _ _ _ s₁ (mkF m 6 #[.val (.ref a1), .val (.ref a2), .val (.int (Int32.ofNat i)), .val (.int (Int32.ofNat k))] [])
    refine own_go (fun t k => XS.aloadN X0.here hx rfl (hb hby d_method_5_6) rfl rfl k) ?_
    show Go _ _ _ _ _ s₁ (mkF m 7 #[.val (.ref a1), .val (.ref a2), .val (.int (Int32.ofNat i)), .val (.int (Int32.ofNat k))] [(.ref a1)])
    refine own_go (fun t k => XS.iloadN X0.here hx rfl (hb hby d_method_5_7) rfl k) ?_
    show Go _ _ _ _ _ s₁ (mkF m 8 #[.val (.ref a1), .val (.ref a2), .val (.int (Int32.ofNat i)), .val (.int (Int32.ofNat k))] [(.int (Int32.ofNat i)), (.ref a1)])
    refine own_go (fun t k => XS.iloadN X0.here hx rfl (hb hby d_method_5_8) rfl k) ?_
    show Go _ _ _ _ _ s₁ (mkF m 9 #[.val (.ref a1), .val (.ref a2), .val (.int (Int32.ofNat i)), .val (.int (Int32.ofNat k))] [(.int (Int32.ofNat k)), (.int (Int32.ofNat i)), (.ref a1)])
    refine own_go (fun t k => XS.iadd X0.here hx rfl (hb hby d_method_5_9) rfl k) ?_
    show Go _ _ _ _ _ s₁ (mkF m 10 #[.val (.ref a1), .val (.ref a2), .val (.int (Int32.ofNat i)), .val (.int (Int32.ofNat k))] [(.int ((Int32.ofNat i) + (Int32.ofNat k))), (.ref a1)])
    refine own_bload X0 hx hZ e0 B1 (i := i + k) (own_add_nat i k) (by have := ((own_lt_nat (by have := B2.1; omega) (by have := B2.1; omega)).mp hc39); omega) (hb hby d_method_5_10) ?_
    show Go _ _ _ _ _ s₁ (mkF m 11 #[.val (.ref a1), .val (.ref a2), .val (.int (Int32.ofNat i)), .val (.int (Int32.ofNat k))] [(.int (xs.getD (i + k) 0))])
    refine own_go (fun t k => XS.aloadN X0.here hx rfl (hb hby d_method_5_11) rfl rfl k) ?_
    show Go _ _ _ _ _ s₁ (mkF m 12 #[.val (.ref a1), .val (.ref a2), .val (.int (Int32.ofNat i)), .val (.int (Int32.ofNat k))] [(.ref a2), (.int (xs.getD (i + k) 0))])
    refine own_go (fun t k => XS.iloadN X0.here hx rfl (hb hby d_method_5_12) rfl k) ?_
    show Go _ _ _ _ _ s₁ (mkF m 13 #[.val (.ref a1), .val (.ref a2), .val (.int (Int32.ofNat i)), .val (.int (Int32.ofNat k))] [(.int (Int32.ofNat k)), (.ref a2), (.int (xs.getD (i + k) 0))])
    refine own_bload X0 hx hZ e0 B2 (i := k) rfl ((own_lt_nat (by have := B2.1; omega) (by have := B2.1; omega)).mp hc39) (hb hby d_method_5_13) ?_
    show Go _ _ _ _ _ s₁ (mkF m 14 #[.val (.ref a1), .val (.ref a2), .val (.int (Int32.ofNat i)), .val (.int (Int32.ofNat k))] [(.int (ys.getD (k) 0)), (.int (xs.getD (i + k) 0))])
    refine own_icmpM ((xs.getD (i + k) 0) = (ys.getD (k) 0)) X0 hx (hb hby d_method_5_14) (own_ne _ _) (by decide) (by decide) (pc' := 21) (fun hc40 => ?_) (fun hc40 => ?_)
    · skip
      show Go _ _ _ _ _ s₁ (mkF m 21 #[.val (.ref a1), .val (.ref a2), .val (.int (Int32.ofNat i)), .val (.int (Int32.ofNat k))] [])
      refine own_go (fun t k => XS.iconst X0.here hx rfl (hb hby d_method_5_21) k) ?_
      show Go _ _ _ _ _ s₁ (mkF m 22 #[.val (.ref a1), .val (.ref a2), .val (.int (Int32.ofNat i)), .val (.int (Int32.ofNat k))] [(.int (0 : Int32))])
      refine own_retN X0 hx (own_lvN X0 hlk (by decide) (by decide)) (t := .boolean) hret (by simp) (hb hby d_method_5_22) ?_
      refine ⟨?_, N0, e0⟩
      rw [← hr, own_eqk]
      have hb := B2.1
      rw [if_neg (Nat.not_le.mpr ((own_lt_nat (by omega) (by omega)).mp hc39)), if_neg hc40]; rfl
    · skip
      show Go _ _ _ _ _ s₁ (mkF m 17 #[.val (.ref a1), .val (.ref a2), .val (.int (Int32.ofNat i)), .val (.int (Int32.ofNat k))] [])
      refine own_go (fun t k => XS.iconst X0.here hx rfl (hb hby d_method_5_17) k) ?_
      show Go _ _ _ _ _ s₁ (mkF m 18 #[.val (.ref a1), .val (.ref a2), .val (.int (Int32.ofNat i)), .val (.int (Int32.ofNat k))] [(.int (1 : Int32))])
      refine own_go (fun t k => XS.goto X0.here hx rfl (pc0 := 18) (pc' := 22) rfl (hb hby d_method_5_18) (by decide) (by decide) k) ?_
      show Go _ _ _ _ _ s₁ (mkF m 22 #[.val (.ref a1), .val (.ref a2), .val (.int (Int32.ofNat i)), .val (.int (Int32.ofNat k))] [(.int (1 : Int32))])
      refine own_retN X0 hx (own_lvN X0 hlk (by decide) (by decide)) (t := .boolean) hret (by simp) (hb hby d_method_5_22) ?_
      refine ⟨?_, N0, e0⟩
      rw [← hr, own_eqk]
      have hb := B2.1
      rw [if_neg (Nat.not_le.mpr ((own_lt_nat (by omega) (by omega)).mp hc39)), if_pos hc40]; rfl
theorem d_method_6_0 : Jvm.ClassFile.decode method_6_code 0 = .ok (.iload_n 2, 1) := by decide +kernel
theorem d_method_6_1 : Jvm.ClassFile.decode method_6_code 1 = .ok (.aload_n 1, 1) := by decide +kernel
theorem d_method_6_2 : Jvm.ClassFile.decode method_6_code 2 = .ok (.arraylength, 1) := by decide +kernel
theorem d_method_6_3 : Jvm.ClassFile.decode method_6_code 3 = .ok (.iadd, 1) := by decide +kernel
theorem d_method_6_4 : Jvm.ClassFile.decode method_6_code 4 = .ok (.aload_n 0, 1) := by decide +kernel
theorem d_method_6_5 : Jvm.ClassFile.decode method_6_code 5 = .ok (.arraylength, 1) := by decide +kernel
theorem d_method_6_6 : Jvm.ClassFile.decode method_6_code 6 = .ok (.if_icmp .gt 37, 3) := by decide +kernel
theorem d_method_6_43 : Jvm.ClassFile.decode method_6_code 43 = .ok (.iconst 0, 1) := by decide +kernel
theorem d_method_6_44 : Jvm.ClassFile.decode method_6_code 44 = .ok (.ireturn, 1) := by decide +kernel
theorem d_method_6_9 : Jvm.ClassFile.decode method_6_code 9 = .ok (.aload_n 0, 1) := by decide +kernel
theorem d_method_6_10 : Jvm.ClassFile.decode method_6_code 10 = .ok (.aload_n 1, 1) := by decide +kernel
theorem d_method_6_11 : Jvm.ClassFile.decode method_6_code 11 = .ok (.iload_n 2, 1) := by decide +kernel
theorem d_method_6_12 : Jvm.ClassFile.decode method_6_code 12 = .ok (.iconst 0, 1) := by decide +kernel
theorem d_method_6_13 : Jvm.ClassFile.decode method_6_code 13 = .ok (.invokestatic 27, 3) := by decide +kernel
theorem own_pd1 : parseMethodDescriptor "([B[BII)Z" = some ⟨[(.array .byte), (.array .byte), .int, .int], some .boolean⟩ := by decide +kernel
theorem d_method_6_16 : Jvm.ClassFile.decode method_6_code 16 = .ok (.ifCond .eq 27, 3) := by decide +kernel
theorem d_method_6_19 : Jvm.ClassFile.decode method_6_code 19 = .ok (.aload_n 0, 1) := by decide +kernel
theorem d_method_6_20 : Jvm.ClassFile.decode method_6_code 20 = .ok (.aload_n 1, 1) := by decide +kernel
theorem d_method_6_21 : Jvm.ClassFile.decode method_6_code 21 = .ok (.iload_n 2, 1) := by decide +kernel
theorem d_method_6_22 : Jvm.ClassFile.decode method_6_code 22 = .ok (.iconst 1, 1) := by decide +kernel
theorem d_method_6_23 : Jvm.ClassFile.decode method_6_code 23 = .ok (.invokestatic 27, 3) := by decide +kernel
theorem d_method_6_26 : Jvm.ClassFile.decode method_6_code 26 = .ok (.ifCond .eq 17, 3) := by decide +kernel
theorem d_method_6_29 : Jvm.ClassFile.decode method_6_code 29 = .ok (.aload_n 0, 1) := by decide +kernel
theorem d_method_6_30 : Jvm.ClassFile.decode method_6_code 30 = .ok (.aload_n 1, 1) := by decide +kernel
theorem d_method_6_31 : Jvm.ClassFile.decode method_6_code 31 = .ok (.iload_n 2, 1) := by decide +kernel
theorem d_method_6_32 : Jvm.ClassFile.decode method_6_code 32 = .ok (.iconst 2, 1) := by decide +kernel
theorem d_method_6_33 : Jvm.ClassFile.decode method_6_code 33 = .ok (.invokestatic 27, 3) := by decide +kernel
theorem d_method_6_36 : Jvm.ClassFile.decode method_6_code 36 = .ok (.ifCond .eq 7, 3) := by decide +kernel
theorem d_method_6_39 : Jvm.ClassFile.decode method_6_code 39 = .ok (.iconst 1, 1) := by decide +kernel
theorem d_method_6_40 : Jvm.ClassFile.decode method_6_code 40 = .ok (.goto 4, 3) := by decide +kernel
theorem own_ef_rm_ma (m : MethodId) (x0 : Addr) (x1 : Addr) (x2 : Int32) : entryFrame m #[(.ref x0), (.ref x1), (.int x2)] 3 = mkF m 0 #[.val (.ref x0), .val (.ref x1), .val (.int x2)] [] := by first | (simp [entryFrame, mkF, argsToLocals, Value.category]; done) | rfl
set_option maxRecDepth 65536 in
set_option maxHeartbeats 40000000 in
theorem rm_ma (l : Launch) (Z : State) (a0 : Array Value) (hw : ∀ d ∈ tables_1, d.before a0 Z = true) (ws : List Jvm.Cond) (a1 : Addr) (a2 : Addr) (xs : List Int32) (ys : List Int32) (i : Nat) (r : Int32) (h0 : Heap) (n0 : Nat) (hn0 : n0 ≤ h0.size) (B1 : OwnBA Z h0 a1 xs) (B2 : OwnBA Z h0 a2 ys) (hm3 : ys.length ≤ 3) (hi5 : i ≤ 5) (hr : own_m1 xs ys i = r) :
    OwnMet l Z (⟨"com/example/tallyhouse/tallyhouse/fix/MadeUpMembersHoldsPinLaw", "matchAt", "([B[BI)Z"⟩ : MethodName) method_6_code 3 (some .boolean) ws ({ frames := 1, cells := 0, slots := 0, locals := 15 } : Room) #[(.ref a1), (.ref a2), (.int (Int32.ofNat i))] h0 (OwnP (some (.int r)) h0 n0) := by
  refine own_body (plainFor_of_name own_pn0) ?_
  intro p e s m below meth c s₁ X0 hx hby hml hret hlk hown0 hnm hZ e0 hs0
  have hown : s.vm.findClass "com/example/tallyhouse/tallyhouse/fix/MadeUpMembersHoldsPinLaw" = some m.cls := hown0
  have N0 := Fr.nil n0
  refine own_entry (own_ef_rm_ma m a1 a2 (Int32.ofNat i)) ?_
  show Go _ _ _ _ _ s₁ (mkF m 0 #[.val (.ref a1), .val (.ref a2), .val (.int (Int32.ofNat i))] [])
  refine own_go (fun t k => XS.iloadN X0.here hx rfl (hb hby d_method_6_0) rfl k) ?_
  show Go _ _ _ _ _ s₁ (mkF m 1 #[.val (.ref a1), .val (.ref a2), .val (.int (Int32.ofNat i))] [(.int (Int32.ofNat i))])
  refine own_go (fun t k => XS.aloadN X0.here hx rfl (hb hby d_method_6_1) rfl rfl k) ?_
  show Go _ _ _ _ _ s₁ (mkF m 2 #[.val (.ref a1), .val (.ref a2), .val (.int (Int32.ofNat i))] [(.ref a2), (.int (Int32.ofNat i))])
  refine own_alen X0 hx hZ e0 B2 (hb hby d_method_6_2) ?_
  show Go _ _ _ _ _ s₁ (mkF m 3 #[.val (.ref a1), .val (.ref a2), .val (.int (Int32.ofNat i))] [(.int (Int32.ofNat ys.length)), (.int (Int32.ofNat i))])
  refine own_go (fun t k => XS.iadd X0.here hx rfl (hb hby d_method_6_3) rfl k) ?_
  show Go _ _ _ _ _ s₁ (mkF m 4 #[.val (.ref a1), .val (.ref a2), .val (.int (Int32.ofNat i))] [(.int ((Int32.ofNat i) + (Int32.ofNat ys.length)))])
  refine own_go (fun t k => XS.aloadN X0.here hx rfl (hb hby d_method_6_4) rfl rfl k) ?_
  show Go _ _ _ _ _ s₁ (mkF m 5 #[.val (.ref a1), .val (.ref a2), .val (.int (Int32.ofNat i))] [(.ref a1), (.int ((Int32.ofNat i) + (Int32.ofNat ys.length)))])
  refine own_alen X0 hx hZ e0 B1 (hb hby d_method_6_5) ?_
  show Go _ _ _ _ _ s₁ (mkF m 6 #[.val (.ref a1), .val (.ref a2), .val (.int (Int32.ofNat i))] [(.int (Int32.ofNat xs.length)), (.int ((Int32.ofNat i) + (Int32.ofNat ys.length)))])
  refine own_icmpP ((Int32.ofNat xs.length) < ((Int32.ofNat i) + (Int32.ofNat ys.length))) X0 hx (hb hby d_method_6_6) (own_gt _ _) (by decide) (by decide) (pc' := 43) (fun hc41 => ?_) (fun hc41 => ?_)
  · skip
    show Go _ _ _ _ _ s₁ (mkF m 43 #[.val (.ref a1), .val (.ref a2), .val (.int (Int32.ofNat i))] [])
    refine own_go (fun t k => XS.iconst X0.here hx rfl (hb hby d_method_6_43) k) ?_
    show Go _ _ _ _ _ s₁ (mkF m 44 #[.val (.ref a1), .val (.ref a2), .val (.int (Int32.ofNat i))] [(.int (0 : Int32))])
    refine own_retN X0 hx (own_lvN X0 hlk (by decide) (by decide)) (t := .boolean) hret (by simp) (hb hby d_method_6_44) ?_
    refine ⟨?_, N0, e0⟩
    have b1 := B1.1
    have b2 := B2.1
    rw [own_add_nat, own_lt_nat (by omega) (by omega)] at hc41
    rw [← hr, own_m1_n (by omega)]; rfl
  · skip
    have hik : i + ys.length ≤ xs.length := by
      have b1 := B1.1
      have b2 := B2.1
      rw [own_add_nat, own_lt_nat (by omega) (by omega)] at hc41
      omega
    show Go _ _ _ _ _ s₁ (mkF m 9 #[.val (.ref a1), .val (.ref a2), .val (.int (Int32.ofNat i))] [])
    refine own_go (fun t k => XS.aloadN X0.here hx rfl (hb hby d_method_6_9) rfl rfl k) ?_
    show Go _ _ _ _ _ s₁ (mkF m 10 #[.val (.ref a1), .val (.ref a2), .val (.int (Int32.ofNat i))] [(.ref a1)])
    refine own_go (fun t k => XS.aloadN X0.here hx rfl (hb hby d_method_6_10) rfl rfl k) ?_
    show Go _ _ _ _ _ s₁ (mkF m 11 #[.val (.ref a1), .val (.ref a2), .val (.int (Int32.ofNat i))] [(.ref a2), (.ref a1)])
    refine own_go (fun t k => XS.iloadN X0.here hx rfl (hb hby d_method_6_11) rfl k) ?_
    show Go _ _ _ _ _ s₁ (mkF m 12 #[.val (.ref a1), .val (.ref a2), .val (.int (Int32.ofNat i))] [(.int (Int32.ofNat i)), (.ref a2), (.ref a1)])
    refine own_go (fun t k => XS.iconst X0.here hx rfl (hb hby d_method_6_12) k) ?_
    show Go _ _ _ _ _ s₁ (mkF m 13 #[.val (.ref a1), .val (.ref a2), .val (.int (Int32.ofNat i))] [(.int (0 : Int32)), (.int (Int32.ofNat i)), (.ref a2), (.ref a1)])
    refine own_callS X0 hx hZ (y := (⟨"com/example/tallyhouse/tallyhouse/fix/MadeUpMembersHoldsPinLaw", "eq", "([B[BII)Z"⟩ : MethodName)) hown (hw _ (List.mem_of_getElem? (i := 8) rfl)) (hw _ (List.mem_of_getElem? (i := 9) rfl)) (hw _ (List.mem_of_getElem? (i := 2) rfl)) (hw _ (List.mem_of_getElem? (i := 10) rfl)) (by decide) (rm_eq l Z a0 hw [] a1 a2 xs ys i 0 (own_eqk xs ys i 0) h0 n0 hn0 B1 B2 hik (by decide) rfl) e0 (by rw [hml]; rfl) (argsL := [(.ref a1), (.ref a2), (.int (Int32.ofNat i)), (.int (0 : Int32))]) (rest := []) rfl rfl (lenOf own_pd1 rfl) (W := 0) (Nat.le_of_eq rfl) (by decide) (by decide) (hb hby d_method_6_13) (by decide) (by decide) ?_
    intro v42 T42 L42 X42 q42
    obtain ⟨rfl, N42q, e42⟩ := q42
    have N42 := Fr.app N0 N42q
    show Go _ _ _ _ _ T42 (mkF m 16 #[.val (.ref a1), .val (.ref a2), .val (.int (Int32.ofNat i))] [(.int (own_eqk xs ys i 0))])
    refine own_ifP ((own_eqk xs ys i 0) = (0 : Int32)) X42 hx (hb hby d_method_6_16) (own_eq _ _) (by decide) (by decide) (pc' := 43) (fun hc43 => ?_) (fun hc43 => ?_)
    · skip
      show Go _ _ _ _ _ T42 (mkF m 43 #[.val (.ref a1), .val (.ref a2), .val (.int (Int32.ofNat i))] [])
      refine own_go (fun t k => XS.iconst X42.here hx rfl (hb hby d_method_6_43) k) ?_
      show Go _ _ _ _ _ T42 (mkF m 44 #[.val (.ref a1), .val (.ref a2), .val (.int (Int32.ofNat i))] [(.int (0 : Int32))])
      refine own_retN X42 hx (own_lvN X42 hlk (by decide) (by decide)) (t := .boolean) hret (by simp) (hb hby d_method_6_44) ?_
      refine ⟨?_, N42, e42⟩
      rw [← hr, own_m1_0 hc43]; rfl
    · skip
      show Go _ _ _ _ _ T42 (mkF m 19 #[.val (.ref a1), .val (.ref a2), .val (.int (Int32.ofNat i))] [])
      refine own_go (fun t k => XS.aloadN X42.here hx rfl (hb hby d_method_6_19) rfl rfl k) ?_
      show Go _ _ _ _ _ T42 (mkF m 20 #[.val (.ref a1), .val (.ref a2), .val (.int (Int32.ofNat i))] [(.ref a1)])
      refine own_go (fun t k => XS.aloadN X42.here hx rfl (hb hby d_method_6_20) rfl rfl k) ?_
      show Go _ _ _ _ _ T42 (mkF m 21 #[.val (.ref a1), .val (.ref a2), .val (.int (Int32.ofNat i))] [(.ref a2), (.ref a1)])
      refine own_go (fun t k => XS.iloadN X42.here hx rfl (hb hby d_method_6_21) rfl k) ?_
      show Go _ _ _ _ _ T42 (mkF m 22 #[.val (.ref a1), .val (.ref a2), .val (.int (Int32.ofNat i))] [(.int (Int32.ofNat i)), (.ref a2), (.ref a1)])
      refine own_go (fun t k => XS.iconst X42.here hx rfl (hb hby d_method_6_22) k) ?_
      show Go _ _ _ _ _ T42 (mkF m 23 #[.val (.ref a1), .val (.ref a2), .val (.int (Int32.ofNat i))] [(.int (1 : Int32)), (.int (Int32.ofNat i)), (.ref a2), (.ref a1)])
      refine own_callS X42 hx hZ (y := (⟨"com/example/tallyhouse/tallyhouse/fix/MadeUpMembersHoldsPinLaw", "eq", "([B[BII)Z"⟩ : MethodName)) hown (hw _ (List.mem_of_getElem? (i := 8) rfl)) (hw _ (List.mem_of_getElem? (i := 9) rfl)) (hw _ (List.mem_of_getElem? (i := 2) rfl)) (hw _ (List.mem_of_getElem? (i := 10) rfl)) (by decide) (rm_eq l Z a0 hw [] a1 a2 xs ys i 1 (own_eqk xs ys i 1) h0 n0 hn0 B1 B2 hik (by decide) rfl) e42 (by rw [hml]; rfl) (argsL := [(.ref a1), (.ref a2), (.int (Int32.ofNat i)), (.int (1 : Int32))]) (rest := []) rfl rfl (lenOf own_pd1 rfl) (W := 0) (Nat.le_of_eq rfl) (by decide) (by decide) (hb hby d_method_6_23) (by decide) (by decide) ?_
      intro v44 T44 L44 X44 q44
      obtain ⟨rfl, N44q, e44⟩ := q44
      have N44 := Fr.app N42 N44q
      show Go _ _ _ _ _ T44 (mkF m 26 #[.val (.ref a1), .val (.ref a2), .val (.int (Int32.ofNat i))] [(.int (own_eqk xs ys i 1))])
      refine own_ifP ((own_eqk xs ys i 1) = (0 : Int32)) X44 hx (hb hby d_method_6_26) (own_eq _ _) (by decide) (by decide) (pc' := 43) (fun hc45 => ?_) (fun hc45 => ?_)
      · skip
        show Go _ _ _ _ _ T44 (mkF m 43 #[.val (.ref a1), .val (.ref a2), .val (.int (Int32.ofNat i))] [])
        refine own_go (fun t k => XS.iconst X44.here hx rfl (hb hby d_method_6_43) k) ?_
        show Go _ _ _ _ _ T44 (mkF m 44 #[.val (.ref a1), .val (.ref a2), .val (.int (Int32.ofNat i))] [(.int (0 : Int32))])
        refine own_retN X44 hx (own_lvN X44 hlk (by decide) (by decide)) (t := .boolean) hret (by simp) (hb hby d_method_6_44) ?_
        refine ⟨?_, N44, e44⟩
        rw [← hr, own_m1_0 hc45]; rfl
      · skip
        show Go _ _ _ _ _ T44 (mkF m 29 #[.val (.ref a1), .val (.ref a2), .val (.int (Int32.ofNat i))] [])
        refine own_go (fun t k => XS.aloadN X44.here hx rfl (hb hby d_method_6_29) rfl rfl k) ?_
        show Go _ _ _ _ _ T44 (mkF m 30 #[.val (.ref a1), .val (.ref a2), .val (.int (Int32.ofNat i))] [(.ref a1)])
        refine own_go (fun t k => XS.aloadN X44.here hx rfl (hb hby d_method_6_30) rfl rfl k) ?_
        show Go _ _ _ _ _ T44 (mkF m 31 #[.val (.ref a1), .val (.ref a2), .val (.int (Int32.ofNat i))] [(.ref a2), (.ref a1)])
        refine own_go (fun t k => XS.iloadN X44.here hx rfl (hb hby d_method_6_31) rfl k) ?_
        show Go _ _ _ _ _ T44 (mkF m 32 #[.val (.ref a1), .val (.ref a2), .val (.int (Int32.ofNat i))] [(.int (Int32.ofNat i)), (.ref a2), (.ref a1)])
        refine own_go (fun t k => XS.iconst X44.here hx rfl (hb hby d_method_6_32) k) ?_
        show Go _ _ _ _ _ T44 (mkF m 33 #[.val (.ref a1), .val (.ref a2), .val (.int (Int32.ofNat i))] [(.int (2 : Int32)), (.int (Int32.ofNat i)), (.ref a2), (.ref a1)])
        refine own_callS X44 hx hZ (y := (⟨"com/example/tallyhouse/tallyhouse/fix/MadeUpMembersHoldsPinLaw", "eq", "([B[BII)Z"⟩ : MethodName)) hown (hw _ (List.mem_of_getElem? (i := 8) rfl)) (hw _ (List.mem_of_getElem? (i := 9) rfl)) (hw _ (List.mem_of_getElem? (i := 2) rfl)) (hw _ (List.mem_of_getElem? (i := 10) rfl)) (by decide) (rm_eq l Z a0 hw [] a1 a2 xs ys i 2 (own_eqk xs ys i 2) h0 n0 hn0 B1 B2 hik (by decide) rfl) e44 (by rw [hml]; rfl) (argsL := [(.ref a1), (.ref a2), (.int (Int32.ofNat i)), (.int (2 : Int32))]) (rest := []) rfl rfl (lenOf own_pd1 rfl) (W := 0) (Nat.le_of_eq rfl) (by decide) (by decide) (hb hby d_method_6_33) (by decide) (by decide) ?_
        intro v46 T46 L46 X46 q46
        obtain ⟨rfl, N46q, e46⟩ := q46
        have N46 := Fr.app N44 N46q
        show Go _ _ _ _ _ T46 (mkF m 36 #[.val (.ref a1), .val (.ref a2), .val (.int (Int32.ofNat i))] [(.int (own_eqk xs ys i 2))])
        refine own_ifP ((own_eqk xs ys i 2) = (0 : Int32)) X46 hx (hb hby d_method_6_36) (own_eq _ _) (by decide) (by decide) (pc' := 43) (fun hc47 => ?_) (fun hc47 => ?_)
        · skip
          show Go _ _ _ _ _ T46 (mkF m 43 #[.val (.ref a1), .val (.ref a2), .val (.int (Int32.ofNat i))] [])
          refine own_go (fun t k => XS.iconst X46.here hx rfl (hb hby d_method_6_43) k) ?_
          show Go _ _ _ _ _ T46 (mkF m 44 #[.val (.ref a1), .val (.ref a2), .val (.int (Int32.ofNat i))] [(.int (0 : Int32))])
          refine own_retN X46 hx (own_lvN X46 hlk (by decide) (by decide)) (t := .boolean) hret (by simp) (hb hby d_method_6_44) ?_
          refine ⟨?_, N46, e46⟩
          rw [← hr, own_m1_0 hc47]; rfl
        · skip
          show Go _ _ _ _ _ T46 (mkF m 39 #[.val (.ref a1), .val (.ref a2), .val (.int (Int32.ofNat i))] [])
          refine own_go (fun t k => XS.iconst X46.here hx rfl (hb hby d_method_6_39) k) ?_
          show Go _ _ _ _ _ T46 (mkF m 40 #[.val (.ref a1), .val (.ref a2), .val (.int (Int32.ofNat i))] [(.int (1 : Int32))])
          refine own_go (fun t k => XS.goto X46.here hx rfl (pc0 := 40) (pc' := 44) rfl (hb hby d_method_6_40) (by decide) (by decide) k) ?_
          show Go _ _ _ _ _ T46 (mkF m 44 #[.val (.ref a1), .val (.ref a2), .val (.int (Int32.ofNat i))] [(.int (1 : Int32))])
          refine own_retN X46 hx (own_lvN X46 hlk (by decide) (by decide)) (t := .boolean) hret (by simp) (hb hby d_method_6_44) ?_
          refine ⟨?_, N46, e46⟩
          rw [← hr, own_m1_1 hm3 hik hc43 hc45 hc47]; rfl
theorem d_prog_72_method_6_0 : Jvm.ClassFile.decode prog_72_method_6_code 0 = .ok (.iconst 0, 1) := by decide +kernel
theorem d_prog_72_method_6_1 : Jvm.ClassFile.decode prog_72_method_6_code 1 = .ok (.istore_n 2, 1) := by decide +kernel
theorem d_prog_72_method_6_2 : Jvm.ClassFile.decode prog_72_method_6_code 2 = .ok (.iload_n 2, 1) := by decide +kernel
theorem d_prog_72_method_6_3 : Jvm.ClassFile.decode prog_72_method_6_code 3 = .ok (.aload_n 1, 1) := by decide +kernel
theorem d_prog_72_method_6_4 : Jvm.ClassFile.decode prog_72_method_6_code 4 = .ok (.arraylength, 1) := by decide +kernel
theorem d_prog_72_method_6_5 : Jvm.ClassFile.decode prog_72_method_6_code 5 = .ok (.iadd, 1) := by decide +kernel
theorem d_prog_72_method_6_6 : Jvm.ClassFile.decode prog_72_method_6_code 6 = .ok (.aload_n 0, 1) := by decide +kernel
theorem d_prog_72_method_6_7 : Jvm.ClassFile.decode prog_72_method_6_code 7 = .ok (.arraylength, 1) := by decide +kernel
theorem d_prog_72_method_6_8 : Jvm.ClassFile.decode prog_72_method_6_code 8 = .ok (.if_icmp .gt 42, 3) := by decide +kernel
theorem d_prog_72_method_6_50 : Jvm.ClassFile.decode prog_72_method_6_code 50 = .ok (.iconst 0, 1) := by decide +kernel
theorem d_prog_72_method_6_51 : Jvm.ClassFile.decode prog_72_method_6_code 51 = .ok (.ireturn, 1) := by decide +kernel
theorem d_prog_72_method_6_11 : Jvm.ClassFile.decode prog_72_method_6_code 11 = .ok (.iconst 0, 1) := by decide +kernel
theorem d_prog_72_method_6_13 : Jvm.ClassFile.decode prog_72_method_6_code 13 = .ok (.iload_n 3, 1) := by decide +kernel
theorem d_prog_72_method_6_14 : Jvm.ClassFile.decode prog_72_method_6_code 14 = .ok (.aload_n 1, 1) := by decide +kernel
theorem d_prog_72_method_6_15 : Jvm.ClassFile.decode prog_72_method_6_code 15 = .ok (.arraylength, 1) := by decide +kernel
theorem d_prog_72_method_6_16 : Jvm.ClassFile.decode prog_72_method_6_code 16 = .ok (.if_icmp .ge 20, 3) := by decide +kernel
theorem d_prog_72_method_6_36 : Jvm.ClassFile.decode prog_72_method_6_code 36 = .ok (.iload_n 3, 1) := by decide +kernel
theorem d_prog_72_method_6_37 : Jvm.ClassFile.decode prog_72_method_6_code 37 = .ok (.aload_n 1, 1) := by decide +kernel
theorem d_prog_72_method_6_38 : Jvm.ClassFile.decode prog_72_method_6_code 38 = .ok (.arraylength, 1) := by decide +kernel
theorem d_prog_72_method_6_39 : Jvm.ClassFile.decode prog_72_method_6_code 39 = .ok (.if_icmp .ne 5, 3) := by decide +kernel
theorem d_prog_72_method_6_42 : Jvm.ClassFile.decode prog_72_method_6_code 42 = .ok (.iconst 1, 1) := by decide +kernel
theorem d_prog_72_method_6_43 : Jvm.ClassFile.decode prog_72_method_6_code 43 = .ok (.ireturn, 1) := by decide +kernel
theorem d_prog_72_method_6_19 : Jvm.ClassFile.decode prog_72_method_6_code 19 = .ok (.aload_n 0, 1) := by decide +kernel
theorem d_prog_72_method_6_20 : Jvm.ClassFile.decode prog_72_method_6_code 20 = .ok (.iload_n 2, 1) := by decide +kernel
theorem d_prog_72_method_6_21 : Jvm.ClassFile.decode prog_72_method_6_code 21 = .ok (.iload_n 3, 1) := by decide +kernel
theorem d_prog_72_method_6_22 : Jvm.ClassFile.decode prog_72_method_6_code 22 = .ok (.iadd, 1) := by decide +kernel
theorem d_prog_72_method_6_23 : Jvm.ClassFile.decode prog_72_method_6_code 23 = .ok (.baload, 1) := by decide +kernel
theorem d_prog_72_method_6_24 : Jvm.ClassFile.decode prog_72_method_6_code 24 = .ok (.aload_n 1, 1) := by decide +kernel
theorem d_prog_72_method_6_25 : Jvm.ClassFile.decode prog_72_method_6_code 25 = .ok (.iload_n 3, 1) := by decide +kernel
theorem d_prog_72_method_6_26 : Jvm.ClassFile.decode prog_72_method_6_code 26 = .ok (.baload, 1) := by decide +kernel
theorem d_prog_72_method_6_27 : Jvm.ClassFile.decode prog_72_method_6_code 27 = .ok (.if_icmp .ne 9, 3) := by decide +kernel
theorem d_prog_72_method_6_44 : Jvm.ClassFile.decode prog_72_method_6_code 44 = .ok (.iinc 2 1, 3) := by decide +kernel
theorem d_prog_72_method_6_47 : Jvm.ClassFile.decode prog_72_method_6_code 47 = .ok (.goto (-45), 3) := by decide +kernel
theorem d_prog_72_method_6_30 : Jvm.ClassFile.decode prog_72_method_6_code 30 = .ok (.iinc 3 1, 3) := by decide +kernel
theorem d_prog_72_method_6_33 : Jvm.ClassFile.decode prog_72_method_6_code 33 = .ok (.goto (-20), 3) := by decide +kernel
theorem d_prog_72_method_6_12 : Jvm.ClassFile.decode prog_72_method_6_code 12 = .ok (.istore_n 3, 1) := by decide +kernel
theorem own_pn1 : plainName "com/example/tallyhouse/tallyhouse/fix/MadeUpMembers" = true := by first | (simp [plainName, overriddenIn]; done) | decide +kernel
theorem own_ef_rm_ho (m : MethodId) (x0 : Addr) (x1 : Addr) : entryFrame m #[(.ref x0), (.ref x1)] 4 = mkF m 0 #[.val (.ref x0), .val (.ref x1), .unset, .unset] [] := by first | (simp [entryFrame, mkF, argsToLocals, Value.category]; done) | rfl
set_option maxRecDepth 65536 in
set_option maxHeartbeats 40000000 in
theorem rm_ho (l : Launch) (Z : State) (a0 : Array Value) (hw : ∀ d ∈ tables_1, d.before a0 Z = true) (ws : List Jvm.Cond) (a1 : Addr) (a2 : Addr) (xs : List Int32) (ys : List Int32) (r : Int32) (h0 : Heap) (n0 : Nat) (hn0 : n0 ≤ h0.size) (B1 : OwnBA Z h0 a1 xs) (B2 : OwnBA Z h0 a2 ys) (hr : own_holds xs ys = r) :
    OwnMet l Z (⟨"com/example/tallyhouse/tallyhouse/fix/MadeUpMembers", "holds", "([B[B)Z"⟩ : MethodName) prog_72_method_6_code 4 (some .boolean) ws ({ frames := 0, cells := 0, slots := 0, locals := 0 } : Room) #[(.ref a1), (.ref a2)] h0 (OwnP (some (.int r)) h0 n0) := by
  refine own_body (plainFor_of_name own_pn1) ?_
  intro p e s m below meth c s₁ X0 hx hby hml hret hlk hown0 hnm hZ e0 hs0
  have hown : s.vm.findClass "com/example/tallyhouse/tallyhouse/fix/MadeUpMembers" = some m.cls := hown0
  have N0 := Fr.nil n0
  refine own_entry (own_ef_rm_ho m a1 a2) ?_
  show Go _ _ _ _ _ s₁ (mkF m 0 #[.val (.ref a1), .val (.ref a2), .unset, .unset] [])
  refine own_go (fun t k => XS.iconst X0.here hx rfl (hb hby d_prog_72_method_6_0) k) ?_
  show Go _ _ _ _ _ s₁ (mkF m 1 #[.val (.ref a1), .val (.ref a2), .unset, .unset] [(.int (0 : Int32))])
  refine own_go (fun t k => XS.istoreN X0.here hx rfl (hb hby d_prog_72_method_6_1) rfl (l' := #[.val (.ref a1), .val (.ref a2), .val (.int (0 : Int32)), .unset]) rfl k) ?_
  have hb1 := B1.1
  have hb2 := B2.1
  have OUT : ∀ (d i : Nat) (sl : Slot), d + i = xs.length + 1 → (sl = .unset ∨ ∃ z, sl = .val (.int z)) → (∀ k, k < i → ¬ own_at xs ys k) → Go p e below (EndN s (({ frames := 0, cells := 0, slots := 0, locals := 0 } : Room)).cells (({ frames := 0, cells := 0, slots := 0, locals := 0 } : Room)).slots) (OwnP (some (.int r)) h0 n0) s₁ (mkF m 2 #[.val (.ref a1), .val (.ref a2), .val (.int (Int32.ofNat i)), sl] []) := by
    intro d
    induction d with
    | zero =>
      intro i sl hd hsl hno
      show Go _ _ _ _ _ s₁ (mkF m 2 #[.val (.ref a1), .val (.ref a2), .val (.int (Int32.ofNat i)), sl] [])
      refine own_go (fun t k => XS.iloadN X0.here hx rfl (hb hby d_prog_72_method_6_2) rfl k) ?_
      show Go _ _ _ _ _ s₁ (mkF m 3 #[.val (.ref a1), .val (.ref a2), .val (.int (Int32.ofNat i)), sl] [(.int (Int32.ofNat i))])
      refine own_go (fun t k => XS.aloadN X0.here hx rfl (hb hby d_prog_72_method_6_3) rfl rfl k) ?_
      show Go _ _ _ _ _ s₁ (mkF m 4 #[.val (.ref a1), .val (.ref a2), .val (.int (Int32.ofNat i)), sl] [(.ref a2), (.int (Int32.ofNat i))])
      refine own_alen X0 hx hZ e0 B2 (hb hby d_prog_72_method_6_4) ?_
      show Go _ _ _ _ _ s₁ (mkF m 5 #[.val (.ref a1), .val (.ref a2), .val (.int (Int32.ofNat i)), sl] [(.int (Int32.ofNat ys.length)), (.int (Int32.ofNat i))])
      refine own_go (fun t k => XS.iadd X0.here hx rfl (hb hby d_prog_72_method_6_5) rfl k) ?_
      show Go _ _ _ _ _ s₁ (mkF m 6 #[.val (.ref a1), .val (.ref a2), .val (.int (Int32.ofNat i)), sl] [(.int ((Int32.ofNat i) + (Int32.ofNat ys.length)))])
      refine own_go (fun t k => XS.aloadN X0.here hx rfl (hb hby d_prog_72_method_6_6) rfl rfl k) ?_
      show Go _ _ _ _ _ s₁ (mkF m 7 #[.val (.ref a1), .val (.ref a2), .val (.int (Int32.ofNat i)), sl] [(.ref a1), (.int ((Int32.ofNat i) + (Int32.ofNat ys.length)))])
      refine own_alen X0 hx hZ e0 B1 (hb hby d_prog_72_method_6_7) ?_
      have hz48 : (Int32.ofNat xs.length) < ((Int32.ofNat i) + (Int32.ofNat ys.length)) := by rw [own_add_nat, own_lt_nat (by omega) (by omega)]; omega
      show Go _ _ _ _ _ s₁ (mkF m 8 #[.val (.ref a1), .val (.ref a2), .val (.int (Int32.ofNat i)), sl] [(.int (Int32.ofNat xs.length)), (.int ((Int32.ofNat i) + (Int32.ofNat ys.length)))])
      refine own_go (fun t k => XS.icmpYes X0.here hx rfl (pc0 := 8) (pc' := 50) rfl (hb hby d_prog_72_method_6_8) rfl (tlt hz48).2.2.1 (by decide) (by decide) k) ?_
      show Go _ _ _ _ _ s₁ (mkF m 50 #[.val (.ref a1), .val (.ref a2), .val (.int (Int32.ofNat i)), sl] [])
      refine own_go (fun t k => XS.iconst X0.here hx rfl (hb hby d_prog_72_method_6_50) k) ?_
      show Go _ _ _ _ _ s₁ (mkF m 51 #[.val (.ref a1), .val (.ref a2), .val (.int (Int32.ofNat i)), sl] [(.int (0 : Int32))])
      refine own_retN X0 hx (own_lvN X0 hlk (by decide) (by decide)) (t := .boolean) hret (by simp) (hb hby d_prog_72_method_6_51) ?_
      refine ⟨?_, N0, e0⟩
      have hgt := hz48
      rw [own_add_nat, own_lt_nat (by omega) (by omega)] at hgt
      rw [← hr, own_holds0 (fun k ha => ?_)]
      · rfl
      · by_cases q : k < i
        · exact hno k q ha
        · have := ha.1; omega
    | succ d ih =>
      intro i sl hd hsl hno
      show Go _ _ _ _ _ s₁ (mkF m 2 #[.val (.ref a1), .val (.ref a2), .val (.int (Int32.ofNat i)), sl] [])
      refine own_go (fun t k => XS.iloadN X0.here hx rfl (hb hby d_prog_72_method_6_2) rfl k) ?_
      show Go _ _ _ _ _ s₁ (mkF m 3 #[.val (.ref a1), .val (.ref a2), .val (.int (Int32.ofNat i)), sl] [(.int (Int32.ofNat i))])
      refine own_go (fun t k => XS.aloadN X0.here hx rfl (hb hby d_prog_72_method_6_3) rfl rfl k) ?_
      show Go _ _ _ _ _ s₁ (mkF m 4 #[.val (.ref a1), .val (.ref a2), .val (.int (Int32.ofNat i)), sl] [(.ref a2), (.int (Int32.ofNat i))])
      refine own_alen X0 hx hZ e0 B2 (hb hby d_prog_72_method_6_4) ?_
      show Go _ _ _ _ _ s₁ (mkF m 5 #[.val (.ref a1), .val (.ref a2), .val (.int (Int32.ofNat i)), sl] [(.int (Int32.ofNat ys.length)), (.int (Int32.ofNat i))])
      refine own_go (fun t k => XS.iadd X0.here hx rfl (hb hby d_prog_72_method_6_5) rfl k) ?_
      show Go _ _ _ _ _ s₁ (mkF m 6 #[.val (.ref a1), .val (.ref a2), .val (.int (Int32.ofNat i)), sl] [(.int ((Int32.ofNat i) + (Int32.ofNat ys.length)))])
      refine own_go (fun t k => XS.aloadN X0.here hx rfl (hb hby d_prog_72_method_6_6) rfl rfl k) ?_
      show Go _ _ _ _ _ s₁ (mkF m 7 #[.val (.ref a1), .val (.ref a2), .val (.int (Int32.ofNat i)), sl] [(.ref a1), (.int ((Int32.ofNat i) + (Int32.ofNat ys.length)))])
      refine own_alen X0 hx hZ e0 B1 (hb hby d_prog_72_method_6_7) ?_
      show Go _ _ _ _ _ s₁ (mkF m 8 #[.val (.ref a1), .val (.ref a2), .val (.int (Int32.ofNat i)), sl] [(.int (Int32.ofNat xs.length)), (.int ((Int32.ofNat i) + (Int32.ofNat ys.length)))])
      refine own_icmpP ((Int32.ofNat xs.length) < ((Int32.ofNat i) + (Int32.ofNat ys.length))) X0 hx (hb hby d_prog_72_method_6_8) (own_gt _ _) (by decide) (by decide) (pc' := 50) (fun hc49 => ?_) (fun hc49 => ?_)
      · skip
        show Go _ _ _ _ _ s₁ (mkF m 50 #[.val (.ref a1), .val (.ref a2), .val (.int (Int32.ofNat i)), sl] [])
        refine own_go (fun t k => XS.iconst X0.here hx rfl (hb hby d_prog_72_method_6_50) k) ?_
        show Go _ _ _ _ _ s₁ (mkF m 51 #[.val (.ref a1), .val (.ref a2), .val (.int (Int32.ofNat i)), sl] [(.int (0 : Int32))])
        refine own_retN X0 hx (own_lvN X0 hlk (by decide) (by decide)) (t := .boolean) hret (by simp) (hb hby d_prog_72_method_6_51) ?_
        refine ⟨?_, N0, e0⟩
        have hgt := hc49
        rw [own_add_nat, own_lt_nat (by omega) (by omega)] at hgt
        rw [← hr, own_holds0 (fun k ha => ?_)]
        · rfl
        · by_cases q : k < i
          · exact hno k q ha
          · have := ha.1; omega
      · skip
        show Go _ _ _ _ _ s₁ (mkF m 11 #[.val (.ref a1), .val (.ref a2), .val (.int (Int32.ofNat i)), sl] [])
        refine own_go (fun t k => XS.iconst X0.here hx rfl (hb hby d_prog_72_method_6_11) k) ?_
        have him : i + ys.length ≤ xs.length := by
          rw [own_add_nat, own_lt_nat (by omega) (by omega)] at hc49
          omega
        have IN : ∀ (c j : Nat), c + j = ys.length → (∀ k, k < j → xs.getD (i + k) 0 = ys.getD k 0) → Go p e below (EndN s (({ frames := 0, cells := 0, slots := 0, locals := 0 } : Room)).cells (({ frames := 0, cells := 0, slots := 0, locals := 0 } : Room)).slots) (OwnP (some (.int r)) h0 n0) s₁ (mkF m 13 #[.val (.ref a1), .val (.ref a2), .val (.int (Int32.ofNat i)), .val (.int (Int32.ofNat j))] []) := by
          intro c
          induction c with
          | zero =>
            intro j hcj hall
            show Go _ _ _ _ _ s₁ (mkF m 13 #[.val (.ref a1), .val (.ref a2), .val (.int (Int32.ofNat i)), .val (.int (Int32.ofNat j))] [])
            refine own_go (fun t k => XS.iloadN X0.here hx rfl (hb hby d_prog_72_method_6_13) rfl k) ?_
            show Go _ _ _ _ _ s₁ (mkF m 14 #[.val (.ref a1), .val (.ref a2), .val (.int (Int32.ofNat i)), .val (.int (Int32.ofNat j))] [(.int (Int32.ofNat j))])
            refine own_go (fun t k => XS.aloadN X0.here hx rfl (hb hby d_prog_72_method_6_14) rfl rfl k) ?_
            show Go _ _ _ _ _ s₁ (mkF m 15 #[.val (.ref a1), .val (.ref a2), .val (.int (Int32.ofNat i)), .val (.int (Int32.ofNat j))] [(.ref a2), (.int (Int32.ofNat j))])
            refine own_alen X0 hx hZ e0 B2 (hb hby d_prog_72_method_6_15) ?_
            have hj50 : ¬ (Int32.ofNat j) < (Int32.ofNat ys.length) := by rw [own_lt_nat (by omega) (by omega)]; omega
            show Go _ _ _ _ _ s₁ (mkF m 16 #[.val (.ref a1), .val (.ref a2), .val (.int (Int32.ofNat i)), .val (.int (Int32.ofNat j))] [(.int (Int32.ofNat ys.length)), (.int (Int32.ofNat j))])
            refine own_go (fun t k => XS.icmpYes X0.here hx rfl (pc0 := 16) (pc' := 36) rfl (hb hby d_prog_72_method_6_16) rfl (flt hj50).2.1 (by decide) (by decide) k) ?_
            show Go _ _ _ _ _ s₁ (mkF m 36 #[.val (.ref a1), .val (.ref a2), .val (.int (Int32.ofNat i)), .val (.int (Int32.ofNat j))] [])
            refine own_go (fun t k => XS.iloadN X0.here hx rfl (hb hby d_prog_72_method_6_36) rfl k) ?_
            show Go _ _ _ _ _ s₁ (mkF m 37 #[.val (.ref a1), .val (.ref a2), .val (.int (Int32.ofNat i)), .val (.int (Int32.ofNat j))] [(.int (Int32.ofNat j))])
            refine own_go (fun t k => XS.aloadN X0.here hx rfl (hb hby d_prog_72_method_6_37) rfl rfl k) ?_
            show Go _ _ _ _ _ s₁ (mkF m 38 #[.val (.ref a1), .val (.ref a2), .val (.int (Int32.ofNat i)), .val (.int (Int32.ofNat j))] [(.ref a2), (.int (Int32.ofNat j))])
            refine own_alen X0 hx hZ e0 B2 (hb hby d_prog_72_method_6_38) ?_
            have hq51 : (Int32.ofNat j) = (Int32.ofNat ys.length) := by rw [own_eq_nat (by omega) (by omega)]; omega
            show Go _ _ _ _ _ s₁ (mkF m 39 #[.val (.ref a1), .val (.ref a2), .val (.int (Int32.ofNat i)), .val (.int (Int32.ofNat j))] [(.int (Int32.ofNat ys.length)), (.int (Int32.ofNat j))])
            refine own_go (fun t k => XS.icmpNo X0.here hx rfl (hb hby d_prog_72_method_6_39) rfl (teq hq51).2 k) ?_
            show Go _ _ _ _ _ s₁ (mkF m 42 #[.val (.ref a1), .val (.ref a2), .val (.int (Int32.ofNat i)), .val (.int (Int32.ofNat j))] [])
            refine own_go (fun t k => XS.iconst X0.here hx rfl (hb hby d_prog_72_method_6_42) k) ?_
            show Go _ _ _ _ _ s₁ (mkF m 43 #[.val (.ref a1), .val (.ref a2), .val (.int (Int32.ofNat i)), .val (.int (Int32.ofNat j))] [(.int (1 : Int32))])
            refine own_retN X0 hx (own_lvN X0 hlk (by decide) (by decide)) (t := .boolean) hret (by simp) (hb hby d_prog_72_method_6_43) ?_
            refine ⟨?_, N0, e0⟩
            rw [← hr, own_holds1 (i := i) ⟨him, fun k hk => hall k (by omega)⟩]; rfl
          | succ c ihc =>
            intro j hcj hall
            show Go _ _ _ _ _ s₁ (mkF m 13 #[.val (.ref a1), .val (.ref a2), .val (.int (Int32.ofNat i)), .val (.int (Int32.ofNat j))] [])
            refine own_go (fun t k => XS.iloadN X0.here hx rfl (hb hby d_prog_72_method_6_13) rfl k) ?_
            show Go _ _ _ _ _ s₁ (mkF m 14 #[.val (.ref a1), .val (.ref a2), .val (.int (Int32.ofNat i)), .val (.int (Int32.ofNat j))] [(.int (Int32.ofNat j))])
            refine own_go (fun t k => XS.aloadN X0.here hx rfl (hb hby d_prog_72_method_6_14) rfl rfl k) ?_
            show Go _ _ _ _ _ s₁ (mkF m 15 #[.val (.ref a1), .val (.ref a2), .val (.int (Int32.ofNat i)), .val (.int (Int32.ofNat j))] [(.ref a2), (.int (Int32.ofNat j))])
            refine own_alen X0 hx hZ e0 B2 (hb hby d_prog_72_method_6_15) ?_
            have hj52 : (Int32.ofNat j) < (Int32.ofNat ys.length) := by rw [own_lt_nat (by omega) (by omega)]; omega
            show Go _ _ _ _ _ s₁ (mkF m 16 #[.val (.ref a1), .val (.ref a2), .val (.int (Int32.ofNat i)), .val (.int (Int32.ofNat j))] [(.int (Int32.ofNat ys.length)), (.int (Int32.ofNat j))])
            refine own_go (fun t k => XS.icmpNo X0.here hx rfl (hb hby d_prog_72_method_6_16) rfl (tlt hj52).2.1 k) ?_
            show Go _ _ _ _ _ s₁ (mkF m 19 #[.val (.ref a1), .val (.ref a2), .val (.int (Int32.ofNat i)), .val (.int (Int32.ofNat j))] [])
            refine own_go (fun t k => XS.aloadN X0.here hx rfl (hb hby d_prog_72_method_6_19) rfl rfl k) ?_
            show Go _ _ _ _ _ s₁ (mkF m 20 #[.val (.ref a1), .val (.ref a2), .val (.int (Int32.ofNat i)), .val (.int (Int32.ofNat j))] [(.ref a1)])
            refine own_go (fun t k => XS.iloadN X0.here hx rfl (hb hby d_prog_72_method_6_20) rfl k) ?_
            show Go _ _ _ _ _ s₁ (mkF m 21 #[.val (.ref a1), .val (.ref a2), .val (.int (Int32.ofNat i)), .val (.int (Int32.ofNat j))] [(.int (Int32.ofNat i)), (.ref a1)])
            refine own_go (fun t k => XS.iloadN X0.here hx rfl (hb hby d_prog_72_method_6_21) rfl k) ?_
            show Go _ _ _ _ _ s₁ (mkF m 22 #[.val (.ref a1), .val (.ref a2), .val (.int (Int32.ofNat i)), .val (.int (Int32.ofNat j))] [(.int (Int32.ofNat j)), (.int (Int32.ofNat i)), (.ref a1)])
            refine own_go (fun t k => XS.iadd X0.here hx rfl (hb hby d_prog_72_method_6_22) rfl k) ?_
            show Go _ _ _ _ _ s₁ (mkF m 23 #[.val (.ref a1), .val (.ref a2), .val (.int (Int32.ofNat i)), .val (.int (Int32.ofNat j))] [(.int ((Int32.ofNat i) + (Int32.ofNat j))), (.ref a1)])
            refine own_bload X0 hx hZ e0 B1 (i := i + j) (own_add_nat i j) (by omega) (hb hby d_prog_72_method_6_23) ?_
            show Go _ _ _ _ _ s₁ (mkF m 24 #[.val (.ref a1), .val (.ref a2), .val (.int (Int32.ofNat i)), .val (.int (Int32.ofNat j))] [(.int (xs.getD (i + j) 0))])
            refine own_go (fun t k => XS.aloadN X0.here hx rfl (hb hby d_prog_72_method_6_24) rfl rfl k) ?_
            show Go _ _ _ _ _ s₁ (mkF m 25 #[.val (.ref a1), .val (.ref a2), .val (.int (Int32.ofNat i)), .val (.int (Int32.ofNat j))] [(.ref a2), (.int (xs.getD (i + j) 0))])
            refine own_go (fun t k => XS.iloadN X0.here hx rfl (hb hby d_prog_72_method_6_25) rfl k) ?_
            show Go _ _ _ _ _ s₁ (mkF m 26 #[.val (.ref a1), .val (.ref a2), .val (.int (Int32.ofNat i)), .val (.int (Int32.ofNat j))] [(.int (Int32.ofNat j)), (.ref a2), (.int (xs.getD (i + j) 0))])
            refine own_bload X0 hx hZ e0 B2 (i := j) rfl (by omega) (hb hby d_prog_72_method_6_26) ?_
            show Go _ _ _ _ _ s₁ (mkF m 27 #[.val (.ref a1), .val (.ref a2), .val (.int (Int32.ofNat i)), .val (.int (Int32.ofNat j))] [(.int (ys.getD (j) 0)), (.int (xs.getD (i + j) 0))])
            refine own_icmpM ((xs.getD (i + j) 0) = (ys.getD (j) 0)) X0 hx (hb hby d_prog_72_method_6_27) (own_ne _ _) (by decide) (by decide) (pc' := 36) (fun hc53 => ?_) (fun hc53 => ?_)
            · skip
              show Go _ _ _ _ _ s₁ (mkF m 36 #[.val (.ref a1), .val (.ref a2), .val (.int (Int32.ofNat i)), .val (.int (Int32.ofNat j))] [])
              refine own_go (fun t k => XS.iloadN X0.here hx rfl (hb hby d_prog_72_method_6_36) rfl k) ?_
              show Go _ _ _ _ _ s₁ (mkF m 37 #[.val (.ref a1), .val (.ref a2), .val (.int (Int32.ofNat i)), .val (.int (Int32.ofNat j))] [(.int (Int32.ofNat j))])
              refine own_go (fun t k => XS.aloadN X0.here hx rfl (hb hby d_prog_72_method_6_37) rfl rfl k) ?_
              show Go _ _ _ _ _ s₁ (mkF m 38 #[.val (.ref a1), .val (.ref a2), .val (.int (Int32.ofNat i)), .val (.int (Int32.ofNat j))] [(.ref a2), (.int (Int32.ofNat j))])
              refine own_alen X0 hx hZ e0 B2 (hb hby d_prog_72_method_6_38) ?_
              have hq54 : ¬ (Int32.ofNat j) = (Int32.ofNat ys.length) := by rw [own_eq_nat (by omega) (by omega)]; omega
              show Go _ _ _ _ _ s₁ (mkF m 39 #[.val (.ref a1), .val (.ref a2), .val (.int (Int32.ofNat i)), .val (.int (Int32.ofNat j))] [(.int (Int32.ofNat ys.length)), (.int (Int32.ofNat j))])
              refine own_go (fun t k => XS.icmpYes X0.here hx rfl (pc0 := 39) (pc' := 44) rfl (hb hby d_prog_72_method_6_39) rfl (feq hq54).2 (by decide) (by decide) k) ?_
              show Go _ _ _ _ _ s₁ (mkF m 44 #[.val (.ref a1), .val (.ref a2), .val (.int (Int32.ofNat i)), .val (.int (Int32.ofNat j))] [])
              refine own_go (fun t k => XS.iinc X0.here hx rfl (hb hby d_prog_72_method_6_44) rfl (l' := #[.val (.ref a1), .val (.ref a2), .val (.int ((Int32.ofNat i) + (1 : Int32))), .val (.int (Int32.ofNat j))]) rfl k) ?_
              show Go _ _ _ _ _ s₁ (mkF m 47 #[.val (.ref a1), .val (.ref a2), .val (.int ((Int32.ofNat i) + (1 : Int32))), .val (.int (Int32.ofNat j))] [])
              refine own_go (fun t k => XS.goto X0.here hx rfl (pc0 := 47) (pc' := 2) rfl (hb hby d_prog_72_method_6_47) (by decide) (by decide) k) ?_
              show Go _ _ _ _ _ s₁ (mkF m 2 #[.val (.ref a1), .val (.ref a2), .val (.int ((Int32.ofNat i) + (1 : Int32))), .val (.int (Int32.ofNat j))] [])
              rw [show (Int32.ofNat i) + (1 : Int32) = Int32.ofNat (i + 1) from own_add_nat i 1]
              refine ih (i + 1) _ (by omega) (Or.inr ⟨_, rfl⟩) (fun k hk => ?_)
              rcases Nat.lt_succ_iff_lt_or_eq.mp hk with q | rfl
              · exact hno k q
              · exact fun ha => hc53 (ha.2 j (by omega))
            · skip
              show Go _ _ _ _ _ s₁ (mkF m 30 #[.val (.ref a1), .val (.ref a2), .val (.int (Int32.ofNat i)), .val (.int (Int32.ofNat j))] [])
              refine own_go (fun t k => XS.iinc X0.here hx rfl (hb hby d_prog_72_method_6_30) rfl (l' := #[.val (.ref a1), .val (.ref a2), .val (.int (Int32.ofNat i)), .val (.int ((Int32.ofNat j) + (1 : Int32)))]) rfl k) ?_
              show Go _ _ _ _ _ s₁ (mkF m 33 #[.val (.ref a1), .val (.ref a2), .val (.int (Int32.ofNat i)), .val (.int ((Int32.ofNat j) + (1 : Int32)))] [])
              refine own_go (fun t k => XS.goto X0.here hx rfl (pc0 := 33) (pc' := 13) rfl (hb hby d_prog_72_method_6_33) (by decide) (by decide) k) ?_
              show Go _ _ _ _ _ s₁ (mkF m 13 #[.val (.ref a1), .val (.ref a2), .val (.int (Int32.ofNat i)), .val (.int ((Int32.ofNat j) + (1 : Int32)))] [])
              rw [show (Int32.ofNat j) + (1 : Int32) = Int32.ofNat (j + 1) from own_add_nat j 1]
              refine ihc (j + 1) (by omega) (fun k hk => ?_)
              rcases Nat.lt_succ_iff_lt_or_eq.mp hk with q | rfl
              · exact hall k q
              · exact hc53
        rcases hsl with rfl | ⟨z3, rfl⟩
        · skip
          show Go _ _ _ _ _ s₁ (mkF m 12 #[.val (.ref a1), .val (.ref a2), .val (.int (Int32.ofNat i)), .unset] [(.int (0 : Int32))])
          refine own_go (fun t k => XS.istoreN X0.here hx rfl (hb hby d_prog_72_method_6_12) rfl (l' := #[.val (.ref a1), .val (.ref a2), .val (.int (Int32.ofNat i)), .val (.int (0 : Int32))]) rfl k) ?_
          exact IN ys.length 0 (by omega) (fun k hk => absurd hk (Nat.not_lt_zero k))
        · skip
          show Go _ _ _ _ _ s₁ (mkF m 12 #[.val (.ref a1), .val (.ref a2), .val (.int (Int32.ofNat i)), .val (.int z3)] [(.int (0 : Int32))])
          refine own_go (fun t k => XS.istoreN X0.here hx rfl (hb hby d_prog_72_method_6_12) rfl (l' := #[.val (.ref a1), .val (.ref a2), .val (.int (Int32.ofNat i)), .val (.int (0 : Int32))]) rfl k) ?_
          exact IN ys.length 0 (by omega) (fun k hk => absurd hk (Nat.not_lt_zero k))
  exact OUT (xs.length + 1) 0 .unset (by omega) (Or.inl rfl) (fun k hk => absurd hk (Nat.not_lt_zero k))
theorem own_pd2 : parseMethodDescriptor "(IJZB)[B" = some ⟨[.int, .long, .boolean, .byte], some (.array .byte)⟩ := by decide +kernel
theorem own_pd3 : parseMethodDescriptor "([B[BI)Z" = some ⟨[(.array .byte), (.array .byte), .int], some .boolean⟩ := by decide +kernel
theorem own_pd4 : parseMethodDescriptor "([B[B)Z" = some ⟨[(.array .byte), (.array .byte)], some .boolean⟩ := by decide +kernel
theorem own_ef_rm0 (m : MethodId) (x0 : Int64) (x1 : Int64) (x2 : Int32) (x3 : Int32) : entryFrame m #[(.long x0), (.long x1), (.int x2), (.int x3)] maxLocals = mkF m 0 #[.val (.long x0), .second, .val (.long x1), .second, .val (.int x2), .val (.int x3), .unset, .unset, .unset, .unset, .unset, .unset, .unset] [] := by first | (simp [entryFrame, mkF, argsToLocals, Value.category, maxLocals]; done) | rfl
set_option maxRecDepth 65536 in
set_option maxHeartbeats 40000000 in
theorem rm0 (l : Launch) (Z : State) (a0 : Array Value) (hw : ∀ d ∈ tables_1, d.before a0 Z = true) (ws : List Jvm.Cond) (p1 : Int64) (p2 : Int64) (p3 : Int32) (p4 : Int32) (h0 : Heap) (n0 : Nat) (hn0 : n0 ≤ h0.size)  :
    OwnMet l Z x code maxLocals ret ws room_1 #[(.long p1), (.long p2), (.int p3), (.int p4)] h0 (OwnR (some (.int 1)) n0) := by
  refine own_body (plainFor_of_name own_pn0) ?_
  intro p e s m below meth c s₁ X0 hx hby hml hret hlk hown0 hnm hZ e0 hs0
  have hown : s.vm.findClass "com/example/tallyhouse/tallyhouse/fix/MadeUpMembersHoldsPinLaw" = some m.cls := hown0
  have N0 := Fr.nil n0
  refine own_entry (own_ef_rm0 m p1 p2 p3 p4) ?_
  show Go _ _ _ _ _ s₁ (mkF m 0 #[.val (.long p1), .second, .val (.long p2), .second, .val (.int p3), .val (.int p4), .unset, .unset, .unset, .unset, .unset, .unset, .unset] [])
  refine own_go (fun t k => XS.iload X0.here hx rfl (hb hby at_0) rfl k) ?_
  show Go _ _ _ _ _ s₁ (mkF m 2 #[.val (.long p1), .second, .val (.long p2), .second, .val (.int p3), .val (.int p4), .unset, .unset, .unset, .unset, .unset, .unset, .unset] [(.int p3)])
  refine own_go (fun t k => XS.bipush X0.here hx rfl (hb hby at_2) k) ?_
  show Go _ _ _ _ _ s₁ (mkF m 4 #[.val (.long p1), .second, .val (.long p2), .second, .val (.int p3), .val (.int p4), .unset, .unset, .unset, .unset, .unset, .unset, .unset] [(.int (7 : Int32)), (.int p3)])
  refine own_go (fun t k => XS.iand X0.here hx rfl (hb hby at_4) rfl k) ?_
  show Go _ _ _ _ _ s₁ (mkF m 5 #[.val (.long p1), .second, .val (.long p2), .second, .val (.int p3), .val (.int p4), .unset, .unset, .unset, .unset, .unset, .unset, .unset] [(.int (p3 &&& (7 : Int32)))])
  refine own_go (fun t k => XS.bipush X0.here hx rfl (hb hby at_5) k) ?_
  show Go _ _ _ _ _ s₁ (mkF m 7 #[.val (.long p1), .second, .val (.long p2), .second, .val (.int p3), .val (.int p4), .unset, .unset, .unset, .unset, .unset, .unset, .unset] [(.int (6 : Int32)), (.int (p3 &&& (7 : Int32)))])
  refine own_go (fun t k => iremM X0 hx rfl (hb hby at_7) rfl (by decide) k) ?_
  show Go _ _ _ _ _ s₁ (mkF m 8 #[.val (.long p1), .second, .val (.long p2), .second, .val (.int p3), .val (.int p4), .unset, .unset, .unset, .unset, .unset, .unset, .unset] [(.int ((p3 &&& (7 : Int32)) % (6 : Int32)))])
  refine own_go (fun t k => XS.istore X0.here hx rfl (hb hby at_8) rfl (l' := #[.val (.long p1), .second, .val (.long p2), .second, .val (.int p3), .val (.int p4), .val (.int ((p3 &&& (7 : Int32)) % (6 : Int32))), .unset, .unset, .unset, .unset, .unset, .unset]) rfl k) ?_
  show Go _ _ _ _ _ s₁ (mkF m 10 #[.val (.long p1), .second, .val (.long p2), .second, .val (.int p3), .val (.int p4), .val (.int ((p3 &&& (7 : Int32)) % (6 : Int32))), .unset, .unset, .unset, .unset, .unset, .unset] [])
  have hN1 := own_rem6b p3
  generalize ((p3 &&& (7 : Int32)) % (6 : Int32)) = n1 at hN1 ⊢
  show Go _ _ _ _ _ s₁ (mkF m 10 #[.val (.long p1), .second, .val (.long p2), .second, .val (.int p3), .val (.int p4), .val (.int n1), .unset, .unset, .unset, .unset, .unset, .unset] [])
  refine own_go (fun t k => XS.iload X0.here hx rfl (hb hby at_10) rfl k) ?_
  show Go _ _ _ _ _ s₁ (mkF m 12 #[.val (.long p1), .second, .val (.long p2), .second, .val (.int p3), .val (.int p4), .val (.int n1), .unset, .unset, .unset, .unset, .unset, .unset] [(.int p3)])
  refine own_go (fun t k => XS.iconst X0.here hx rfl (hb hby at_12) k) ?_
  show Go _ _ _ _ _ s₁ (mkF m 13 #[.val (.long p1), .second, .val (.long p2), .second, .val (.int p3), .val (.int p4), .val (.int n1), .unset, .unset, .unset, .unset, .unset, .unset] [(.int (3 : Int32)), (.int p3)])
  refine own_go (fun t k => XS.iushr X0.here hx rfl (hb hby at_13) rfl k) ?_
  show Go _ _ _ _ _ s₁ (mkF m 14 #[.val (.long p1), .second, .val (.long p2), .second, .val (.int p3), .val (.int p4), .val (.int n1), .unset, .unset, .unset, .unset, .unset, .unset] [(.int ((p3.toUInt32 >>> ((3 : Int32) &&& 31).toUInt32).toInt32))])
  refine own_go (fun t k => XS.iconst X0.here hx rfl (hb hby at_14) k) ?_
  show Go _ _ _ _ _ s₁ (mkF m 15 #[.val (.long p1), .second, .val (.long p2), .second, .val (.int p3), .val (.int p4), .val (.int n1), .unset, .unset, .unset, .unset, .unset, .unset] [(.int (3 : Int32)), (.int ((p3.toUInt32 >>> ((3 : Int32) &&& 31).toUInt32).toInt32))])
  refine own_go (fun t k => XS.iand X0.here hx rfl (hb hby at_15) rfl k) ?_
  show Go _ _ _ _ _ s₁ (mkF m 16 #[.val (.long p1), .second, .val (.long p2), .second, .val (.int p3), .val (.int p4), .val (.int n1), .unset, .unset, .unset, .unset, .unset, .unset] [(.int (((p3.toUInt32 >>> ((3 : Int32) &&& 31).toUInt32).toInt32) &&& (3 : Int32)))])
  refine own_go (fun t k => XS.istore X0.here hx rfl (hb hby at_16) rfl (l' := #[.val (.long p1), .second, .val (.long p2), .second, .val (.int p3), .val (.int p4), .val (.int n1), .val (.int (((p3.toUInt32 >>> ((3 : Int32) &&& 31).toUInt32).toInt32) &&& (3 : Int32))), .unset, .unset, .unset, .unset, .unset]) rfl k) ?_
  show Go _ _ _ _ _ s₁ (mkF m 18 #[.val (.long p1), .second, .val (.long p2), .second, .val (.int p3), .val (.int p4), .val (.int n1), .val (.int (((p3.toUInt32 >>> ((3 : Int32) &&& 31).toUInt32).toInt32) &&& (3 : Int32))), .unset, .unset, .unset, .unset, .unset] [])
  have hN2 := own_and3 ((p3.toUInt32 >>> ((3 : Int32) &&& 31).toUInt32).toInt32)
  generalize (((p3.toUInt32 >>> ((3 : Int32) &&& 31).toUInt32).toInt32) &&& (3 : Int32)) = n2 at hN2 ⊢
  show Go _ _ _ _ _ s₁ (mkF m 18 #[.val (.long p1), .second, .val (.long p2), .second, .val (.int p3), .val (.int p4), .val (.int n1), .val (.int n2), .unset, .unset, .unset, .unset, .unset] [])
  refine own_go (fun t k => XS.iload X0.here hx rfl (hb hby at_18) rfl k) ?_
  show Go _ _ _ _ _ s₁ (mkF m 20 #[.val (.long p1), .second, .val (.long p2), .second, .val (.int p3), .val (.int p4), .val (.int n1), .val (.int n2), .unset, .unset, .unset, .unset, .unset] [(.int p4)])
  refine own_go (fun t k => XS.iconst X0.here hx rfl (hb hby at_20) k) ?_
  show Go _ _ _ _ _ s₁ (mkF m 21 #[.val (.long p1), .second, .val (.long p2), .second, .val (.int p3), .val (.int p4), .val (.int n1), .val (.int n2), .unset, .unset, .unset, .unset, .unset] [(.int (1 : Int32)), (.int p4)])
  refine own_go (fun t k => XS.iand X0.here hx rfl (hb hby at_21) rfl k) ?_
  have J55 : ∀ (sm : Int32), Go p e below (EndN s (room_1.cells) (room_1.slots)) (OwnR (some (.int 1)) n0) s₁ (mkF m 32 #[.val (.long p1), .second, .val (.long p2), .second, .val (.int p3), .val (.int p4), .val (.int n1), .val (.int n2), .val (.int sm), .unset, .unset, .unset, .unset] []) := by
    intro sm
    show Go _ _ _ _ _ s₁ (mkF m 32 #[.val (.long p1), .second, .val (.long p2), .second, .val (.int p3), .val (.int p4), .val (.int n1), .val (.int n2), .val (.int sm), .unset, .unset, .unset, .unset] [])
    refine own_go (fun t k => XS.iload X0.here hx rfl (hb hby at_32) rfl k) ?_
    show Go _ _ _ _ _ s₁ (mkF m 34 #[.val (.long p1), .second, .val (.long p2), .second, .val (.int p3), .val (.int p4), .val (.int n1), .val (.int n2), .val (.int sm), .unset, .unset, .unset, .unset] [(.int p4)])
    refine own_go (fun t k => XS.bipush X0.here hx rfl (hb hby at_34) k) ?_
    show Go _ _ _ _ _ s₁ (mkF m 36 #[.val (.long p1), .second, .val (.long p2), .second, .val (.int p3), .val (.int p4), .val (.int n1), .val (.int n2), .val (.int sm), .unset, .unset, .unset, .unset] [(.int (8 : Int32)), (.int p4)])
    refine own_go (fun t k => XS.iushr X0.here hx rfl (hb hby at_36) rfl k) ?_
    show Go _ _ _ _ _ s₁ (mkF m 37 #[.val (.long p1), .second, .val (.long p2), .second, .val (.int p3), .val (.int p4), .val (.int n1), .val (.int n2), .val (.int sm), .unset, .unset, .unset, .unset] [(.int ((p4.toUInt32 >>> ((8 : Int32) &&& 31).toUInt32).toInt32))])
    refine own_go (fun t k => XS.i2b X0.here hx rfl (hb hby at_37) rfl k) ?_
    show Go _ _ _ _ _ s₁ (mkF m 38 #[.val (.long p1), .second, .val (.long p2), .second, .val (.int p3), .val (.int p4), .val (.int n1), .val (.int n2), .val (.int sm), .unset, .unset, .unset, .unset] [(.int (((p4.toUInt32 >>> ((8 : Int32) &&& 31).toUInt32).toInt32).toInt8.toInt32))])
    refine own_go (fun t k => XS.istore X0.here hx rfl (hb hby at_38) rfl (l' := #[.val (.long p1), .second, .val (.long p2), .second, .val (.int p3), .val (.int p4), .val (.int n1), .val (.int n2), .val (.int sm), .val (.int (((p4.toUInt32 >>> ((8 : Int32) &&& 31).toUInt32).toInt32).toInt8.toInt32)), .unset, .unset, .unset]) rfl k) ?_
    show Go _ _ _ _ _ s₁ (mkF m 40 #[.val (.long p1), .second, .val (.long p2), .second, .val (.int p3), .val (.int p4), .val (.int n1), .val (.int n2), .val (.int sm), .val (.int (((p4.toUInt32 >>> ((8 : Int32) &&& 31).toUInt32).toInt32).toInt8.toInt32)), .unset, .unset, .unset] [])
    refine own_go (fun t k => XS.iload X0.here hx rfl (hb hby at_40) rfl k) ?_
    show Go _ _ _ _ _ s₁ (mkF m 42 #[.val (.long p1), .second, .val (.long p2), .second, .val (.int p3), .val (.int p4), .val (.int n1), .val (.int n2), .val (.int sm), .val (.int (((p4.toUInt32 >>> ((8 : Int32) &&& 31).toUInt32).toInt32).toInt8.toInt32)), .unset, .unset, .unset] [(.int n1)])
    refine own_go (fun t k => XS.lloadN X0.here hx rfl (hb hby at_42) rfl k) ?_
    show Go _ _ _ _ _ s₁ (mkF m 43 #[.val (.long p1), .second, .val (.long p2), .second, .val (.int p3), .val (.int p4), .val (.int n1), .val (.int n2), .val (.int sm), .val (.int (((p4.toUInt32 >>> ((8 : Int32) &&& 31).toUInt32).toInt32).toInt8.toInt32)), .unset, .unset, .unset] [(.long p1), (.int n1)])
    refine own_go (fun t k => XS.iload X0.here hx rfl (hb hby at_43) rfl k) ?_
    show Go _ _ _ _ _ s₁ (mkF m 45 #[.val (.long p1), .second, .val (.long p2), .second, .val (.int p3), .val (.int p4), .val (.int n1), .val (.int n2), .val (.int sm), .val (.int (((p4.toUInt32 >>> ((8 : Int32) &&& 31).toUInt32).toInt32).toInt8.toInt32)), .unset, .unset, .unset] [(.int sm), (.long p1), (.int n1)])
    refine own_go (fun t k => XS.iload X0.here hx rfl (hb hby at_45) rfl k) ?_
    show Go _ _ _ _ _ s₁ (mkF m 47 #[.val (.long p1), .second, .val (.long p2), .second, .val (.int p3), .val (.int p4), .val (.int n1), .val (.int n2), .val (.int sm), .val (.int (((p4.toUInt32 >>> ((8 : Int32) &&& 31).toUInt32).toInt32).toInt8.toInt32)), .unset, .unset, .unset] [(.int (((p4.toUInt32 >>> ((8 : Int32) &&& 31).toUInt32).toInt32).toInt8.toInt32)), (.int sm), (.long p1), (.int n1)])
    refine own_callS X0 hx hZ (y := (⟨"com/example/tallyhouse/tallyhouse/fix/MadeUpMembersHoldsPinLaw", "make", "(IJZB)[B"⟩ : MethodName)) hown (hw _ (List.mem_of_getElem? (i := 0) rfl)) (hw _ (List.mem_of_getElem? (i := 1) rfl)) (hw _ (List.mem_of_getElem? (i := 2) rfl)) (hw _ (List.mem_of_getElem? (i := 3) rfl)) (by decide) (rm_make l Z a0 hw [] n1 p1 sm (((p4.toUInt32 >>> ((8 : Int32) &&& 31).toUInt32).toInt32).toInt8.toInt32) h0 n0 hn0 hN1) e0 (by rw [hml]; rfl) (argsL := [(.int n1), (.long p1), (.int sm), (.int (((p4.toUInt32 >>> ((8 : Int32) &&& 31).toUInt32).toInt32).toInt8.toInt32))]) (rest := []) rfl rfl (lenOf own_pd2 rfl) (W := 0) (Nat.le_of_eq rfl) (by decide) (by decide) (hb hby at_47) (by decide) (by decide) ?_
    intro v56 T56 L56 X56 q56
    obtain ⟨b56, xs56, rfl, N56q, K56, hb56, hl56, BA56⟩ := q56
    have N56 := Fr.app N0 N56q
    have hn56 : n0 ≤ T56.heap.size := Nat.le_trans hn0 K56.1
    have hL56 := own_len5 hN1 hl56
    show Go _ _ _ _ _ T56 (mkF m 50 #[.val (.long p1), .second, .val (.long p2), .second, .val (.int p3), .val (.int p4), .val (.int n1), .val (.int n2), .val (.int sm), .val (.int (((p4.toUInt32 >>> ((8 : Int32) &&& 31).toUInt32).toInt32).toInt8.toInt32)), .unset, .unset, .unset] [(.ref b56)])
    refine own_go (fun t k => XS.astore X56.here hx rfl (hb hby at_50) rfl rfl (l' := #[.val (.long p1), .second, .val (.long p2), .second, .val (.int p3), .val (.int p4), .val (.int n1), .val (.int n2), .val (.int sm), .val (.int (((p4.toUInt32 >>> ((8 : Int32) &&& 31).toUInt32).toInt32).toInt8.toInt32)), .val (.ref b56), .unset, .unset]) rfl k) ?_
    show Go _ _ _ _ _ T56 (mkF m 52 #[.val (.long p1), .second, .val (.long p2), .second, .val (.int p3), .val (.int p4), .val (.int n1), .val (.int n2), .val (.int sm), .val (.int (((p4.toUInt32 >>> ((8 : Int32) &&& 31).toUInt32).toInt32).toInt8.toInt32)), .val (.ref b56), .unset, .unset] [])
    refine own_go (fun t k => XS.iload X56.here hx rfl (hb hby at_52) rfl k) ?_
    show Go _ _ _ _ _ T56 (mkF m 54 #[.val (.long p1), .second, .val (.long p2), .second, .val (.int p3), .val (.int p4), .val (.int n1), .val (.int n2), .val (.int sm), .val (.int (((p4.toUInt32 >>> ((8 : Int32) &&& 31).toUInt32).toInt32).toInt8.toInt32)), .val (.ref b56), .unset, .unset] [(.int n2)])
    refine own_go (fun t k => XS.lloadN X56.here hx rfl (hb hby at_54) rfl k) ?_
    show Go _ _ _ _ _ T56 (mkF m 55 #[.val (.long p1), .second, .val (.long p2), .second, .val (.int p3), .val (.int p4), .val (.int n1), .val (.int n2), .val (.int sm), .val (.int (((p4.toUInt32 >>> ((8 : Int32) &&& 31).toUInt32).toInt32).toInt8.toInt32)), .val (.ref b56), .unset, .unset] [(.long p2), (.int n2)])
    refine own_go (fun t k => XS.iload X56.here hx rfl (hb hby at_55) rfl k) ?_
    show Go _ _ _ _ _ T56 (mkF m 57 #[.val (.long p1), .second, .val (.long p2), .second, .val (.int p3), .val (.int p4), .val (.int n1), .val (.int n2), .val (.int sm), .val (.int (((p4.toUInt32 >>> ((8 : Int32) &&& 31).toUInt32).toInt32).toInt8.toInt32)), .val (.ref b56), .unset, .unset] [(.int sm), (.long p2), (.int n2)])
    refine own_go (fun t k => XS.iload X56.here hx rfl (hb hby at_57) rfl k) ?_
    show Go _ _ _ _ _ T56 (mkF m 59 #[.val (.long p1), .second, .val (.long p2), .second, .val (.int p3), .val (.int p4), .val (.int n1), .val (.int n2), .val (.int sm), .val (.int (((p4.toUInt32 >>> ((8 : Int32) &&& 31).toUInt32).toInt32).toInt8.toInt32)), .val (.ref b56), .unset, .unset] [(.int (((p4.toUInt32 >>> ((8 : Int32) &&& 31).toUInt32).toInt32).toInt8.toInt32)), (.int sm), (.long p2), (.int n2)])
    refine own_callS X56 hx hZ (y := (⟨"com/example/tallyhouse/tallyhouse/fix/MadeUpMembersHoldsPinLaw", "make", "(IJZB)[B"⟩ : MethodName)) hown (hw _ (List.mem_of_getElem? (i := 0) rfl)) (hw _ (List.mem_of_getElem? (i := 1) rfl)) (hw _ (List.mem_of_getElem? (i := 2) rfl)) (hw _ (List.mem_of_getElem? (i := 3) rfl)) (by decide) (rm_make l Z a0 hw [] n2 p2 sm (((p4.toUInt32 >>> ((8 : Int32) &&& 31).toUInt32).toInt32).toInt8.toInt32) T56.heap n0 hn56 (own_up hN2)) rfl (by rw [hml]; rfl) (argsL := [(.int n2), (.long p2), (.int sm), (.int (((p4.toUInt32 >>> ((8 : Int32) &&& 31).toUInt32).toInt32).toInt8.toInt32))]) (rest := []) rfl rfl (lenOf own_pd2 rfl) (W := 0) (Nat.le_of_eq rfl) (by decide) (by decide) (hb hby at_59) (by decide) (by decide) ?_
    intro v57 T57 L57 X57 q57
    obtain ⟨b57, xs57, rfl, N57q, K57, hb57, hl57, BA57⟩ := q57
    have N57 := Fr.app N56 N57q
    replace BA56 := BA56.keep K57 nin0
    have hn57 : n0 ≤ T57.heap.size := Nat.le_trans hn56 K57.1
    have hL57 := own_len3 hN2 hl57
    show Go _ _ _ _ _ T57 (mkF m 62 #[.val (.long p1), .second, .val (.long p2), .second, .val (.int p3), .val (.int p4), .val (.int n1), .val (.int n2), .val (.int sm), .val (.int (((p4.toUInt32 >>> ((8 : Int32) &&& 31).toUInt32).toInt32).toInt8.toInt32)), .val (.ref b56), .unset, .unset] [(.ref b57)])
    refine own_go (fun t k => XS.astore X57.here hx rfl (hb hby at_62) rfl rfl (l' := #[.val (.long p1), .second, .val (.long p2), .second, .val (.int p3), .val (.int p4), .val (.int n1), .val (.int n2), .val (.int sm), .val (.int (((p4.toUInt32 >>> ((8 : Int32) &&& 31).toUInt32).toInt32).toInt8.toInt32)), .val (.ref b56), .val (.ref b57), .unset]) rfl k) ?_
    show Go _ _ _ _ _ T57 (mkF m 64 #[.val (.long p1), .second, .val (.long p2), .second, .val (.int p3), .val (.int p4), .val (.int n1), .val (.int n2), .val (.int sm), .val (.int (((p4.toUInt32 >>> ((8 : Int32) &&& 31).toUInt32).toInt32).toInt8.toInt32)), .val (.ref b56), .val (.ref b57), .unset] [])
    refine own_go (fun t k => XS.aload X57.here hx rfl (hb hby at_64) rfl rfl k) ?_
    show Go _ _ _ _ _ T57 (mkF m 66 #[.val (.long p1), .second, .val (.long p2), .second, .val (.int p3), .val (.int p4), .val (.int n1), .val (.int n2), .val (.int sm), .val (.int (((p4.toUInt32 >>> ((8 : Int32) &&& 31).toUInt32).toInt32).toInt8.toInt32)), .val (.ref b56), .val (.ref b57), .unset] [(.ref b56)])
    refine own_go (fun t k => XS.aload X57.here hx rfl (hb hby at_66) rfl rfl k) ?_
    show Go _ _ _ _ _ T57 (mkF m 68 #[.val (.long p1), .second, .val (.long p2), .second, .val (.int p3), .val (.int p4), .val (.int n1), .val (.int n2), .val (.int sm), .val (.int (((p4.toUInt32 >>> ((8 : Int32) &&& 31).toUInt32).toInt32).toInt8.toInt32)), .val (.ref b56), .val (.ref b57), .unset] [(.ref b57), (.ref b56)])
    refine own_go (fun t k => XS.iconst X57.here hx rfl (hb hby at_68) k) ?_
    show Go _ _ _ _ _ T57 (mkF m 69 #[.val (.long p1), .second, .val (.long p2), .second, .val (.int p3), .val (.int p4), .val (.int n1), .val (.int n2), .val (.int sm), .val (.int (((p4.toUInt32 >>> ((8 : Int32) &&& 31).toUInt32).toInt32).toInt8.toInt32)), .val (.ref b56), .val (.ref b57), .unset] [(.int (0 : Int32)), (.ref b57), (.ref b56)])
    refine own_callS X57 hx hZ (y := (⟨"com/example/tallyhouse/tallyhouse/fix/MadeUpMembersHoldsPinLaw", "matchAt", "([B[BI)Z"⟩ : MethodName)) hown (hw _ (List.mem_of_getElem? (i := 5) rfl)) (hw _ (List.mem_of_getElem? (i := 6) rfl)) (hw _ (List.mem_of_getElem? (i := 2) rfl)) (hw _ (List.mem_of_getElem? (i := 7) rfl)) (by decide) (rm_ma l Z a0 hw [] b56 b57 xs56 xs57 0 (own_m1 xs56 xs57 0) T57.heap n0 hn57 BA56 BA57 hL57 (by decide) rfl) rfl (by rw [hml]; rfl) (argsL := [(.ref b56), (.ref b57), (.int (0 : Int32))]) (rest := []) rfl rfl (lenOf own_pd3 rfl) (W := 0) (Nat.le_of_eq rfl) (by decide) (by decide) (hb hby at_69) (by decide) (by decide) ?_
    intro v58 T58 L58 X58 q58
    obtain ⟨rfl, N58q, e58⟩ := q58
    have N58 := Fr.app N57 N58q
    show Go _ _ _ _ _ T58 (mkF m 72 #[.val (.long p1), .second, .val (.long p2), .second, .val (.int p3), .val (.int p4), .val (.int n1), .val (.int n2), .val (.int sm), .val (.int (((p4.toUInt32 >>> ((8 : Int32) &&& 31).toUInt32).toInt32).toInt8.toInt32)), .val (.ref b56), .val (.ref b57), .unset] [(.int (own_m1 xs56 xs57 0))])
    refine own_ifM ((own_m1 xs56 xs57 0) = (0 : Int32)) X58 hx (hb hby at_72) (own_ne _ _) (by decide) (by decide) (pc' := 130) (fun hc59 => ?_) (fun hc59 => ?_)
    · skip
      show Go _ _ _ _ _ T58 (mkF m 130 #[.val (.long p1), .second, .val (.long p2), .second, .val (.int p3), .val (.int p4), .val (.int n1), .val (.int n2), .val (.int sm), .val (.int (((p4.toUInt32 >>> ((8 : Int32) &&& 31).toUInt32).toInt32).toInt8.toInt32)), .val (.ref b56), .val (.ref b57), .unset] [])
      refine own_go (fun t k => XS.iconst X58.here hx rfl (hb hby at_130) k) ?_
      show Go _ _ _ _ _ T58 (mkF m 131 #[.val (.long p1), .second, .val (.long p2), .second, .val (.int p3), .val (.int p4), .val (.int n1), .val (.int n2), .val (.int sm), .val (.int (((p4.toUInt32 >>> ((8 : Int32) &&& 31).toUInt32).toInt32).toInt8.toInt32)), .val (.ref b56), .val (.ref b57), .unset] [(.int (1 : Int32))])
      refine own_go (fun t k => XS.goto X58.here hx rfl (pc0 := 131) (pc' := 135) rfl (hb hby at_131) (by decide) (by decide) k) ?_
      show Go _ _ _ _ _ T58 (mkF m 135 #[.val (.long p1), .second, .val (.long p2), .second, .val (.int p3), .val (.int p4), .val (.int n1), .val (.int n2), .val (.int sm), .val (.int (((p4.toUInt32 >>> ((8 : Int32) &&& 31).toUInt32).toInt32).toInt8.toInt32)), .val (.ref b56), .val (.ref b57), .unset] [(.int (1 : Int32))])
      refine own_go (fun t k => XS.istore X58.here hx rfl (hb hby at_135) rfl (l' := #[.val (.long p1), .second, .val (.long p2), .second, .val (.int p3), .val (.int p4), .val (.int n1), .val (.int n2), .val (.int sm), .val (.int (((p4.toUInt32 >>> ((8 : Int32) &&& 31).toUInt32).toInt32).toInt8.toInt32)), .val (.ref b56), .val (.ref b57), .val (.int (1 : Int32))]) rfl k) ?_
      show Go _ _ _ _ _ T58 (mkF m 137 #[.val (.long p1), .second, .val (.long p2), .second, .val (.int p3), .val (.int p4), .val (.int n1), .val (.int n2), .val (.int sm), .val (.int (((p4.toUInt32 >>> ((8 : Int32) &&& 31).toUInt32).toInt32).toInt8.toInt32)), .val (.ref b56), .val (.ref b57), .val (.int (1 : Int32))] [])
      refine own_go (fun t k => XS.aload X58.here hx rfl (hb hby at_137) rfl rfl k) ?_
      show Go _ _ _ _ _ T58 (mkF m 139 #[.val (.long p1), .second, .val (.long p2), .second, .val (.int p3), .val (.int p4), .val (.int n1), .val (.int n2), .val (.int sm), .val (.int (((p4.toUInt32 >>> ((8 : Int32) &&& 31).toUInt32).toInt32).toInt8.toInt32)), .val (.ref b56), .val (.ref b57), .val (.int (1 : Int32))] [(.ref b56)])
      refine own_go (fun t k => XS.aload X58.here hx rfl (hb hby at_139) rfl rfl k) ?_
      show Go _ _ _ _ _ T58 (mkF m 141 #[.val (.long p1), .second, .val (.long p2), .second, .val (.int p3), .val (.int p4), .val (.int n1), .val (.int n2), .val (.int sm), .val (.int (((p4.toUInt32 >>> ((8 : Int32) &&& 31).toUInt32).toInt32).toInt8.toInt32)), .val (.ref b56), .val (.ref b57), .val (.int (1 : Int32))] [(.ref b57), (.ref b56)])
      refine own_callS X58 hx hZ (y := (⟨"com/example/tallyhouse/tallyhouse/fix/MadeUpMembers", "holds", "([B[B)Z"⟩ : MethodName)) hown (hw _ (List.mem_of_getElem? (i := 11) rfl)) (hw _ (List.mem_of_getElem? (i := 12) rfl)) (hw _ (List.mem_of_getElem? (i := 13) rfl)) (hw _ (List.mem_of_getElem? (i := 14) rfl)) (by decide) (rm_ho l Z a0 hw [] b56 b57 xs56 xs57 (own_holds xs56 xs57) T57.heap n0 hn57 BA56 BA57 rfl) e58 (by rw [hml]; rfl) (argsL := [(.ref b56), (.ref b57)]) (rest := []) rfl rfl (lenOf own_pd4 rfl) (W := 0) (Nat.le_of_eq rfl) (by decide) (by decide) (hb hby at_141) (by decide) (by decide) ?_
      intro v60 T60 L60 X60 q60
      obtain ⟨rfl, N60q, e60⟩ := q60
      have N60 := Fr.app N58 N60q
      show Go _ _ _ _ _ T60 (mkF m 144 #[.val (.long p1), .second, .val (.long p2), .second, .val (.int p3), .val (.int p4), .val (.int n1), .val (.int n2), .val (.int sm), .val (.int (((p4.toUInt32 >>> ((8 : Int32) &&& 31).toUInt32).toInt32).toInt8.toInt32)), .val (.ref b56), .val (.ref b57), .val (.int (1 : Int32))] [(.int (own_holds xs56 xs57))])
      refine own_go (fun t k => XS.iload X60.here hx rfl (hb hby at_144) rfl k) ?_
      have hg : (own_holds xs56 xs57) = (1 : Int32) := own_m1_fin1 hc59
      show Go _ _ _ _ _ T60 (mkF m 146 #[.val (.long p1), .second, .val (.long p2), .second, .val (.int p3), .val (.int p4), .val (.int n1), .val (.int n2), .val (.int sm), .val (.int (((p4.toUInt32 >>> ((8 : Int32) &&& 31).toUInt32).toInt32).toInt8.toInt32)), .val (.ref b56), .val (.ref b57), .val (.int (1 : Int32))] [(.int (1 : Int32)), (.int (own_holds xs56 xs57))])
      refine own_go (fun t k => XS.icmpNo X60.here hx rfl (hb hby at_146) rfl (teq hg).2 k) ?_
      show Go _ _ _ _ _ T60 (mkF m 149 #[.val (.long p1), .second, .val (.long p2), .second, .val (.int p3), .val (.int p4), .val (.int n1), .val (.int n2), .val (.int sm), .val (.int (((p4.toUInt32 >>> ((8 : Int32) &&& 31).toUInt32).toInt32).toInt8.toInt32)), .val (.ref b56), .val (.ref b57), .val (.int (1 : Int32))] [])
      refine own_go (fun t k => XS.iconst X60.here hx rfl (hb hby at_149) k) ?_
      show Go _ _ _ _ _ T60 (mkF m 150 #[.val (.long p1), .second, .val (.long p2), .second, .val (.int p3), .val (.int p4), .val (.int n1), .val (.int n2), .val (.int sm), .val (.int (((p4.toUInt32 >>> ((8 : Int32) &&& 31).toUInt32).toInt32).toInt8.toInt32)), .val (.ref b56), .val (.ref b57), .val (.int (1 : Int32))] [(.int (1 : Int32))])
      refine own_go (fun t k => XS.goto X60.here hx rfl (pc0 := 150) (pc' := 154) rfl (hb hby at_150) (by decide) (by decide) k) ?_
      show Go _ _ _ _ _ T60 (mkF m 154 #[.val (.long p1), .second, .val (.long p2), .second, .val (.int p3), .val (.int p4), .val (.int n1), .val (.int n2), .val (.int sm), .val (.int (((p4.toUInt32 >>> ((8 : Int32) &&& 31).toUInt32).toInt32).toInt8.toInt32)), .val (.ref b56), .val (.ref b57), .val (.int (1 : Int32))] [(.int (1 : Int32))])
      refine own_retN X60 hx (own_lvN X60 hlk (by decide) (by decide)) (t := .boolean) hret (by simp) (hb hby at_154) ?_
      exact ⟨rfl, N60⟩
    · skip
      show Go _ _ _ _ _ T58 (mkF m 75 #[.val (.long p1), .second, .val (.long p2), .second, .val (.int p3), .val (.int p4), .val (.int n1), .val (.int n2), .val (.int sm), .val (.int (((p4.toUInt32 >>> ((8 : Int32) &&& 31).toUInt32).toInt32).toInt8.toInt32)), .val (.ref b56), .val (.ref b57), .unset] [])
      refine own_go (fun t k => XS.aload X58.here hx rfl (hb hby at_75) rfl rfl k) ?_
      show Go _ _ _ _ _ T58 (mkF m 77 #[.val (.long p1), .second, .val (.long p2), .second, .val (.int p3), .val (.int p4), .val (.int n1), .val (.int n2), .val (.int sm), .val (.int (((p4.toUInt32 >>> ((8 : Int32) &&& 31).toUInt32).toInt32).toInt8.toInt32)), .val (.ref b56), .val (.ref b57), .unset] [(.ref b56)])
      refine own_go (fun t k => XS.aload X58.here hx rfl (hb hby at_77) rfl rfl k) ?_
      show Go _ _ _ _ _ T58 (mkF m 79 #[.val (.long p1), .second, .val (.long p2), .second, .val (.int p3), .val (.int p4), .val (.int n1), .val (.int n2), .val (.int sm), .val (.int (((p4.toUInt32 >>> ((8 : Int32) &&& 31).toUInt32).toInt32).toInt8.toInt32)), .val (.ref b56), .val (.ref b57), .unset] [(.ref b57), (.ref b56)])
      refine own_go (fun t k => XS.iconst X58.here hx rfl (hb hby at_79) k) ?_
      show Go _ _ _ _ _ T58 (mkF m 80 #[.val (.long p1), .second, .val (.long p2), .second, .val (.int p3), .val (.int p4), .val (.int n1), .val (.int n2), .val (.int sm), .val (.int (((p4.toUInt32 >>> ((8 : Int32) &&& 31).toUInt32).toInt32).toInt8.toInt32)), .val (.ref b56), .val (.ref b57), .unset] [(.int (1 : Int32)), (.ref b57), (.ref b56)])
      refine own_callS X58 hx hZ (y := (⟨"com/example/tallyhouse/tallyhouse/fix/MadeUpMembersHoldsPinLaw", "matchAt", "([B[BI)Z"⟩ : MethodName)) hown (hw _ (List.mem_of_getElem? (i := 5) rfl)) (hw _ (List.mem_of_getElem? (i := 6) rfl)) (hw _ (List.mem_of_getElem? (i := 2) rfl)) (hw _ (List.mem_of_getElem? (i := 7) rfl)) (by decide) (rm_ma l Z a0 hw [] b56 b57 xs56 xs57 1 (own_m1 xs56 xs57 1) T57.heap n0 hn57 BA56 BA57 hL57 (by decide) rfl) e58 (by rw [hml]; rfl) (argsL := [(.ref b56), (.ref b57), (.int (1 : Int32))]) (rest := []) rfl rfl (lenOf own_pd3 rfl) (W := 0) (Nat.le_of_eq rfl) (by decide) (by decide) (hb hby at_80) (by decide) (by decide) ?_
      intro v61 T61 L61 X61 q61
      obtain ⟨rfl, N61q, e61⟩ := q61
      have N61 := Fr.app N58 N61q
      show Go _ _ _ _ _ T61 (mkF m 83 #[.val (.long p1), .second, .val (.long p2), .second, .val (.int p3), .val (.int p4), .val (.int n1), .val (.int n2), .val (.int sm), .val (.int (((p4.toUInt32 >>> ((8 : Int32) &&& 31).toUInt32).toInt32).toInt8.toInt32)), .val (.ref b56), .val (.ref b57), .unset] [(.int (own_m1 xs56 xs57 1))])
      refine own_ifM ((own_m1 xs56 xs57 1) = (0 : Int32)) X61 hx (hb hby at_83) (own_ne _ _) (by decide) (by decide) (pc' := 130) (fun hc62 => ?_) (fun hc62 => ?_)
      · skip
        show Go _ _ _ _ _ T61 (mkF m 130 #[.val (.long p1), .second, .val (.long p2), .second, .val (.int p3), .val (.int p4), .val (.int n1), .val (.int n2), .val (.int sm), .val (.int (((p4.toUInt32 >>> ((8 : Int32) &&& 31).toUInt32).toInt32).toInt8.toInt32)), .val (.ref b56), .val (.ref b57), .unset] [])
        refine own_go (fun t k => XS.iconst X61.here hx rfl (hb hby at_130) k) ?_
        show Go _ _ _ _ _ T61 (mkF m 131 #[.val (.long p1), .second, .val (.long p2), .second, .val (.int p3), .val (.int p4), .val (.int n1), .val (.int n2), .val (.int sm), .val (.int (((p4.toUInt32 >>> ((8 : Int32) &&& 31).toUInt32).toInt32).toInt8.toInt32)), .val (.ref b56), .val (.ref b57), .unset] [(.int (1 : Int32))])
        refine own_go (fun t k => XS.goto X61.here hx rfl (pc0 := 131) (pc' := 135) rfl (hb hby at_131) (by decide) (by decide) k) ?_
        show Go _ _ _ _ _ T61 (mkF m 135 #[.val (.long p1), .second, .val (.long p2), .second, .val (.int p3), .val (.int p4), .val (.int n1), .val (.int n2), .val (.int sm), .val (.int (((p4.toUInt32 >>> ((8 : Int32) &&& 31).toUInt32).toInt32).toInt8.toInt32)), .val (.ref b56), .val (.ref b57), .unset] [(.int (1 : Int32))])
        refine own_go (fun t k => XS.istore X61.here hx rfl (hb hby at_135) rfl (l' := #[.val (.long p1), .second, .val (.long p2), .second, .val (.int p3), .val (.int p4), .val (.int n1), .val (.int n2), .val (.int sm), .val (.int (((p4.toUInt32 >>> ((8 : Int32) &&& 31).toUInt32).toInt32).toInt8.toInt32)), .val (.ref b56), .val (.ref b57), .val (.int (1 : Int32))]) rfl k) ?_
        show Go _ _ _ _ _ T61 (mkF m 137 #[.val (.long p1), .second, .val (.long p2), .second, .val (.int p3), .val (.int p4), .val (.int n1), .val (.int n2), .val (.int sm), .val (.int (((p4.toUInt32 >>> ((8 : Int32) &&& 31).toUInt32).toInt32).toInt8.toInt32)), .val (.ref b56), .val (.ref b57), .val (.int (1 : Int32))] [])
        refine own_go (fun t k => XS.aload X61.here hx rfl (hb hby at_137) rfl rfl k) ?_
        show Go _ _ _ _ _ T61 (mkF m 139 #[.val (.long p1), .second, .val (.long p2), .second, .val (.int p3), .val (.int p4), .val (.int n1), .val (.int n2), .val (.int sm), .val (.int (((p4.toUInt32 >>> ((8 : Int32) &&& 31).toUInt32).toInt32).toInt8.toInt32)), .val (.ref b56), .val (.ref b57), .val (.int (1 : Int32))] [(.ref b56)])
        refine own_go (fun t k => XS.aload X61.here hx rfl (hb hby at_139) rfl rfl k) ?_
        show Go _ _ _ _ _ T61 (mkF m 141 #[.val (.long p1), .second, .val (.long p2), .second, .val (.int p3), .val (.int p4), .val (.int n1), .val (.int n2), .val (.int sm), .val (.int (((p4.toUInt32 >>> ((8 : Int32) &&& 31).toUInt32).toInt32).toInt8.toInt32)), .val (.ref b56), .val (.ref b57), .val (.int (1 : Int32))] [(.ref b57), (.ref b56)])
        refine own_callS X61 hx hZ (y := (⟨"com/example/tallyhouse/tallyhouse/fix/MadeUpMembers", "holds", "([B[B)Z"⟩ : MethodName)) hown (hw _ (List.mem_of_getElem? (i := 11) rfl)) (hw _ (List.mem_of_getElem? (i := 12) rfl)) (hw _ (List.mem_of_getElem? (i := 13) rfl)) (hw _ (List.mem_of_getElem? (i := 14) rfl)) (by decide) (rm_ho l Z a0 hw [] b56 b57 xs56 xs57 (own_holds xs56 xs57) T57.heap n0 hn57 BA56 BA57 rfl) e61 (by rw [hml]; rfl) (argsL := [(.ref b56), (.ref b57)]) (rest := []) rfl rfl (lenOf own_pd4 rfl) (W := 0) (Nat.le_of_eq rfl) (by decide) (by decide) (hb hby at_141) (by decide) (by decide) ?_
        intro v63 T63 L63 X63 q63
        obtain ⟨rfl, N63q, e63⟩ := q63
        have N63 := Fr.app N61 N63q
        show Go _ _ _ _ _ T63 (mkF m 144 #[.val (.long p1), .second, .val (.long p2), .second, .val (.int p3), .val (.int p4), .val (.int n1), .val (.int n2), .val (.int sm), .val (.int (((p4.toUInt32 >>> ((8 : Int32) &&& 31).toUInt32).toInt32).toInt8.toInt32)), .val (.ref b56), .val (.ref b57), .val (.int (1 : Int32))] [(.int (own_holds xs56 xs57))])
        refine own_go (fun t k => XS.iload X63.here hx rfl (hb hby at_144) rfl k) ?_
        have hg : (own_holds xs56 xs57) = (1 : Int32) := own_m1_fin1 hc62
        show Go _ _ _ _ _ T63 (mkF m 146 #[.val (.long p1), .second, .val (.long p2), .second, .val (.int p3), .val (.int p4), .val (.int n1), .val (.int n2), .val (.int sm), .val (.int (((p4.toUInt32 >>> ((8 : Int32) &&& 31).toUInt32).toInt32).toInt8.toInt32)), .val (.ref b56), .val (.ref b57), .val (.int (1 : Int32))] [(.int (1 : Int32)), (.int (own_holds xs56 xs57))])
        refine own_go (fun t k => XS.icmpNo X63.here hx rfl (hb hby at_146) rfl (teq hg).2 k) ?_
        show Go _ _ _ _ _ T63 (mkF m 149 #[.val (.long p1), .second, .val (.long p2), .second, .val (.int p3), .val (.int p4), .val (.int n1), .val (.int n2), .val (.int sm), .val (.int (((p4.toUInt32 >>> ((8 : Int32) &&& 31).toUInt32).toInt32).toInt8.toInt32)), .val (.ref b56), .val (.ref b57), .val (.int (1 : Int32))] [])
        refine own_go (fun t k => XS.iconst X63.here hx rfl (hb hby at_149) k) ?_
        show Go _ _ _ _ _ T63 (mkF m 150 #[.val (.long p1), .second, .val (.long p2), .second, .val (.int p3), .val (.int p4), .val (.int n1), .val (.int n2), .val (.int sm), .val (.int (((p4.toUInt32 >>> ((8 : Int32) &&& 31).toUInt32).toInt32).toInt8.toInt32)), .val (.ref b56), .val (.ref b57), .val (.int (1 : Int32))] [(.int (1 : Int32))])
        refine own_go (fun t k => XS.goto X63.here hx rfl (pc0 := 150) (pc' := 154) rfl (hb hby at_150) (by decide) (by decide) k) ?_
        show Go _ _ _ _ _ T63 (mkF m 154 #[.val (.long p1), .second, .val (.long p2), .second, .val (.int p3), .val (.int p4), .val (.int n1), .val (.int n2), .val (.int sm), .val (.int (((p4.toUInt32 >>> ((8 : Int32) &&& 31).toUInt32).toInt32).toInt8.toInt32)), .val (.ref b56), .val (.ref b57), .val (.int (1 : Int32))] [(.int (1 : Int32))])
        refine own_retN X63 hx (own_lvN X63 hlk (by decide) (by decide)) (t := .boolean) hret (by simp) (hb hby at_154) ?_
        exact ⟨rfl, N63⟩
      · skip
        show Go _ _ _ _ _ T61 (mkF m 86 #[.val (.long p1), .second, .val (.long p2), .second, .val (.int p3), .val (.int p4), .val (.int n1), .val (.int n2), .val (.int sm), .val (.int (((p4.toUInt32 >>> ((8 : Int32) &&& 31).toUInt32).toInt32).toInt8.toInt32)), .val (.ref b56), .val (.ref b57), .unset] [])
        refine own_go (fun t k => XS.aload X61.here hx rfl (hb hby at_86) rfl rfl k) ?_
        show Go _ _ _ _ _ T61 (mkF m 88 #[.val (.long p1), .second, .val (.long p2), .second, .val (.int p3), .val (.int p4), .val (.int n1), .val (.int n2), .val (.int sm), .val (.int (((p4.toUInt32 >>> ((8 : Int32) &&& 31).toUInt32).toInt32).toInt8.toInt32)), .val (.ref b56), .val (.ref b57), .unset] [(.ref b56)])
        refine own_go (fun t k => XS.aload X61.here hx rfl (hb hby at_88) rfl rfl k) ?_
        show Go _ _ _ _ _ T61 (mkF m 90 #[.val (.long p1), .second, .val (.long p2), .second, .val (.int p3), .val (.int p4), .val (.int n1), .val (.int n2), .val (.int sm), .val (.int (((p4.toUInt32 >>> ((8 : Int32) &&& 31).toUInt32).toInt32).toInt8.toInt32)), .val (.ref b56), .val (.ref b57), .unset] [(.ref b57), (.ref b56)])
        refine own_go (fun t k => XS.iconst X61.here hx rfl (hb hby at_90) k) ?_
        show Go _ _ _ _ _ T61 (mkF m 91 #[.val (.long p1), .second, .val (.long p2), .second, .val (.int p3), .val (.int p4), .val (.int n1), .val (.int n2), .val (.int sm), .val (.int (((p4.toUInt32 >>> ((8 : Int32) &&& 31).toUInt32).toInt32).toInt8.toInt32)), .val (.ref b56), .val (.ref b57), .unset] [(.int (2 : Int32)), (.ref b57), (.ref b56)])
        refine own_callS X61 hx hZ (y := (⟨"com/example/tallyhouse/tallyhouse/fix/MadeUpMembersHoldsPinLaw", "matchAt", "([B[BI)Z"⟩ : MethodName)) hown (hw _ (List.mem_of_getElem? (i := 5) rfl)) (hw _ (List.mem_of_getElem? (i := 6) rfl)) (hw _ (List.mem_of_getElem? (i := 2) rfl)) (hw _ (List.mem_of_getElem? (i := 7) rfl)) (by decide) (rm_ma l Z a0 hw [] b56 b57 xs56 xs57 2 (own_m1 xs56 xs57 2) T57.heap n0 hn57 BA56 BA57 hL57 (by decide) rfl) e61 (by rw [hml]; rfl) (argsL := [(.ref b56), (.ref b57), (.int (2 : Int32))]) (rest := []) rfl rfl (lenOf own_pd3 rfl) (W := 0) (Nat.le_of_eq rfl) (by decide) (by decide) (hb hby at_91) (by decide) (by decide) ?_
        intro v64 T64 L64 X64 q64
        obtain ⟨rfl, N64q, e64⟩ := q64
        have N64 := Fr.app N61 N64q
        show Go _ _ _ _ _ T64 (mkF m 94 #[.val (.long p1), .second, .val (.long p2), .second, .val (.int p3), .val (.int p4), .val (.int n1), .val (.int n2), .val (.int sm), .val (.int (((p4.toUInt32 >>> ((8 : Int32) &&& 31).toUInt32).toInt32).toInt8.toInt32)), .val (.ref b56), .val (.ref b57), .unset] [(.int (own_m1 xs56 xs57 2))])
        refine own_ifM ((own_m1 xs56 xs57 2) = (0 : Int32)) X64 hx (hb hby at_94) (own_ne _ _) (by decide) (by decide) (pc' := 130) (fun hc65 => ?_) (fun hc65 => ?_)
        · skip
          show Go _ _ _ _ _ T64 (mkF m 130 #[.val (.long p1), .second, .val (.long p2), .second, .val (.int p3), .val (.int p4), .val (.int n1), .val (.int n2), .val (.int sm), .val (.int (((p4.toUInt32 >>> ((8 : Int32) &&& 31).toUInt32).toInt32).toInt8.toInt32)), .val (.ref b56), .val (.ref b57), .unset] [])
          refine own_go (fun t k => XS.iconst X64.here hx rfl (hb hby at_130) k) ?_
          show Go _ _ _ _ _ T64 (mkF m 131 #[.val (.long p1), .second, .val (.long p2), .second, .val (.int p3), .val (.int p4), .val (.int n1), .val (.int n2), .val (.int sm), .val (.int (((p4.toUInt32 >>> ((8 : Int32) &&& 31).toUInt32).toInt32).toInt8.toInt32)), .val (.ref b56), .val (.ref b57), .unset] [(.int (1 : Int32))])
          refine own_go (fun t k => XS.goto X64.here hx rfl (pc0 := 131) (pc' := 135) rfl (hb hby at_131) (by decide) (by decide) k) ?_
          show Go _ _ _ _ _ T64 (mkF m 135 #[.val (.long p1), .second, .val (.long p2), .second, .val (.int p3), .val (.int p4), .val (.int n1), .val (.int n2), .val (.int sm), .val (.int (((p4.toUInt32 >>> ((8 : Int32) &&& 31).toUInt32).toInt32).toInt8.toInt32)), .val (.ref b56), .val (.ref b57), .unset] [(.int (1 : Int32))])
          refine own_go (fun t k => XS.istore X64.here hx rfl (hb hby at_135) rfl (l' := #[.val (.long p1), .second, .val (.long p2), .second, .val (.int p3), .val (.int p4), .val (.int n1), .val (.int n2), .val (.int sm), .val (.int (((p4.toUInt32 >>> ((8 : Int32) &&& 31).toUInt32).toInt32).toInt8.toInt32)), .val (.ref b56), .val (.ref b57), .val (.int (1 : Int32))]) rfl k) ?_
          show Go _ _ _ _ _ T64 (mkF m 137 #[.val (.long p1), .second, .val (.long p2), .second, .val (.int p3), .val (.int p4), .val (.int n1), .val (.int n2), .val (.int sm), .val (.int (((p4.toUInt32 >>> ((8 : Int32) &&& 31).toUInt32).toInt32).toInt8.toInt32)), .val (.ref b56), .val (.ref b57), .val (.int (1 : Int32))] [])
          refine own_go (fun t k => XS.aload X64.here hx rfl (hb hby at_137) rfl rfl k) ?_
          show Go _ _ _ _ _ T64 (mkF m 139 #[.val (.long p1), .second, .val (.long p2), .second, .val (.int p3), .val (.int p4), .val (.int n1), .val (.int n2), .val (.int sm), .val (.int (((p4.toUInt32 >>> ((8 : Int32) &&& 31).toUInt32).toInt32).toInt8.toInt32)), .val (.ref b56), .val (.ref b57), .val (.int (1 : Int32))] [(.ref b56)])
          refine own_go (fun t k => XS.aload X64.here hx rfl (hb hby at_139) rfl rfl k) ?_
          show Go _ _ _ _ _ T64 (mkF m 141 #[.val (.long p1), .second, .val (.long p2), .second, .val (.int p3), .val (.int p4), .val (.int n1), .val (.int n2), .val (.int sm), .val (.int (((p4.toUInt32 >>> ((8 : Int32) &&& 31).toUInt32).toInt32).toInt8.toInt32)), .val (.ref b56), .val (.ref b57), .val (.int (1 : Int32))] [(.ref b57), (.ref b56)])
          refine own_callS X64 hx hZ (y := (⟨"com/example/tallyhouse/tallyhouse/fix/MadeUpMembers", "holds", "([B[B)Z"⟩ : MethodName)) hown (hw _ (List.mem_of_getElem? (i := 11) rfl)) (hw _ (List.mem_of_getElem? (i := 12) rfl)) (hw _ (List.mem_of_getElem? (i := 13) rfl)) (hw _ (List.mem_of_getElem? (i := 14) rfl)) (by decide) (rm_ho l Z a0 hw [] b56 b57 xs56 xs57 (own_holds xs56 xs57) T57.heap n0 hn57 BA56 BA57 rfl) e64 (by rw [hml]; rfl) (argsL := [(.ref b56), (.ref b57)]) (rest := []) rfl rfl (lenOf own_pd4 rfl) (W := 0) (Nat.le_of_eq rfl) (by decide) (by decide) (hb hby at_141) (by decide) (by decide) ?_
          intro v66 T66 L66 X66 q66
          obtain ⟨rfl, N66q, e66⟩ := q66
          have N66 := Fr.app N64 N66q
          show Go _ _ _ _ _ T66 (mkF m 144 #[.val (.long p1), .second, .val (.long p2), .second, .val (.int p3), .val (.int p4), .val (.int n1), .val (.int n2), .val (.int sm), .val (.int (((p4.toUInt32 >>> ((8 : Int32) &&& 31).toUInt32).toInt32).toInt8.toInt32)), .val (.ref b56), .val (.ref b57), .val (.int (1 : Int32))] [(.int (own_holds xs56 xs57))])
          refine own_go (fun t k => XS.iload X66.here hx rfl (hb hby at_144) rfl k) ?_
          have hg : (own_holds xs56 xs57) = (1 : Int32) := own_m1_fin1 hc65
          show Go _ _ _ _ _ T66 (mkF m 146 #[.val (.long p1), .second, .val (.long p2), .second, .val (.int p3), .val (.int p4), .val (.int n1), .val (.int n2), .val (.int sm), .val (.int (((p4.toUInt32 >>> ((8 : Int32) &&& 31).toUInt32).toInt32).toInt8.toInt32)), .val (.ref b56), .val (.ref b57), .val (.int (1 : Int32))] [(.int (1 : Int32)), (.int (own_holds xs56 xs57))])
          refine own_go (fun t k => XS.icmpNo X66.here hx rfl (hb hby at_146) rfl (teq hg).2 k) ?_
          show Go _ _ _ _ _ T66 (mkF m 149 #[.val (.long p1), .second, .val (.long p2), .second, .val (.int p3), .val (.int p4), .val (.int n1), .val (.int n2), .val (.int sm), .val (.int (((p4.toUInt32 >>> ((8 : Int32) &&& 31).toUInt32).toInt32).toInt8.toInt32)), .val (.ref b56), .val (.ref b57), .val (.int (1 : Int32))] [])
          refine own_go (fun t k => XS.iconst X66.here hx rfl (hb hby at_149) k) ?_
          show Go _ _ _ _ _ T66 (mkF m 150 #[.val (.long p1), .second, .val (.long p2), .second, .val (.int p3), .val (.int p4), .val (.int n1), .val (.int n2), .val (.int sm), .val (.int (((p4.toUInt32 >>> ((8 : Int32) &&& 31).toUInt32).toInt32).toInt8.toInt32)), .val (.ref b56), .val (.ref b57), .val (.int (1 : Int32))] [(.int (1 : Int32))])
          refine own_go (fun t k => XS.goto X66.here hx rfl (pc0 := 150) (pc' := 154) rfl (hb hby at_150) (by decide) (by decide) k) ?_
          show Go _ _ _ _ _ T66 (mkF m 154 #[.val (.long p1), .second, .val (.long p2), .second, .val (.int p3), .val (.int p4), .val (.int n1), .val (.int n2), .val (.int sm), .val (.int (((p4.toUInt32 >>> ((8 : Int32) &&& 31).toUInt32).toInt32).toInt8.toInt32)), .val (.ref b56), .val (.ref b57), .val (.int (1 : Int32))] [(.int (1 : Int32))])
          refine own_retN X66 hx (own_lvN X66 hlk (by decide) (by decide)) (t := .boolean) hret (by simp) (hb hby at_154) ?_
          exact ⟨rfl, N66⟩
        · skip
          show Go _ _ _ _ _ T64 (mkF m 97 #[.val (.long p1), .second, .val (.long p2), .second, .val (.int p3), .val (.int p4), .val (.int n1), .val (.int n2), .val (.int sm), .val (.int (((p4.toUInt32 >>> ((8 : Int32) &&& 31).toUInt32).toInt32).toInt8.toInt32)), .val (.ref b56), .val (.ref b57), .unset] [])
          refine own_go (fun t k => XS.aload X64.here hx rfl (hb hby at_97) rfl rfl k) ?_
          show Go _ _ _ _ _ T64 (mkF m 99 #[.val (.long p1), .second, .val (.long p2), .second, .val (.int p3), .val (.int p4), .val (.int n1), .val (.int n2), .val (.int sm), .val (.int (((p4.toUInt32 >>> ((8 : Int32) &&& 31).toUInt32).toInt32).toInt8.toInt32)), .val (.ref b56), .val (.ref b57), .unset] [(.ref b56)])
          refine own_go (fun t k => XS.aload X64.here hx rfl (hb hby at_99) rfl rfl k) ?_
          show Go _ _ _ _ _ T64 (mkF m 101 #[.val (.long p1), .second, .val (.long p2), .second, .val (.int p3), .val (.int p4), .val (.int n1), .val (.int n2), .val (.int sm), .val (.int (((p4.toUInt32 >>> ((8 : Int32) &&& 31).toUInt32).toInt32).toInt8.toInt32)), .val (.ref b56), .val (.ref b57), .unset] [(.ref b57), (.ref b56)])
          refine own_go (fun t k => XS.iconst X64.here hx rfl (hb hby at_101) k) ?_
          show Go _ _ _ _ _ T64 (mkF m 102 #[.val (.long p1), .second, .val (.long p2), .second, .val (.int p3), .val (.int p4), .val (.int n1), .val (.int n2), .val (.int sm), .val (.int (((p4.toUInt32 >>> ((8 : Int32) &&& 31).toUInt32).toInt32).toInt8.toInt32)), .val (.ref b56), .val (.ref b57), .unset] [(.int (3 : Int32)), (.ref b57), (.ref b56)])
          refine own_callS X64 hx hZ (y := (⟨"com/example/tallyhouse/tallyhouse/fix/MadeUpMembersHoldsPinLaw", "matchAt", "([B[BI)Z"⟩ : MethodName)) hown (hw _ (List.mem_of_getElem? (i := 5) rfl)) (hw _ (List.mem_of_getElem? (i := 6) rfl)) (hw _ (List.mem_of_getElem? (i := 2) rfl)) (hw _ (List.mem_of_getElem? (i := 7) rfl)) (by decide) (rm_ma l Z a0 hw [] b56 b57 xs56 xs57 3 (own_m1 xs56 xs57 3) T57.heap n0 hn57 BA56 BA57 hL57 (by decide) rfl) e64 (by rw [hml]; rfl) (argsL := [(.ref b56), (.ref b57), (.int (3 : Int32))]) (rest := []) rfl rfl (lenOf own_pd3 rfl) (W := 0) (Nat.le_of_eq rfl) (by decide) (by decide) (hb hby at_102) (by decide) (by decide) ?_
          intro v67 T67 L67 X67 q67
          obtain ⟨rfl, N67q, e67⟩ := q67
          have N67 := Fr.app N64 N67q
          show Go _ _ _ _ _ T67 (mkF m 105 #[.val (.long p1), .second, .val (.long p2), .second, .val (.int p3), .val (.int p4), .val (.int n1), .val (.int n2), .val (.int sm), .val (.int (((p4.toUInt32 >>> ((8 : Int32) &&& 31).toUInt32).toInt32).toInt8.toInt32)), .val (.ref b56), .val (.ref b57), .unset] [(.int (own_m1 xs56 xs57 3))])
          refine own_ifM ((own_m1 xs56 xs57 3) = (0 : Int32)) X67 hx (hb hby at_105) (own_ne _ _) (by decide) (by decide) (pc' := 130) (fun hc68 => ?_) (fun hc68 => ?_)
          · skip
            show Go _ _ _ _ _ T67 (mkF m 130 #[.val (.long p1), .second, .val (.long p2), .second, .val (.int p3), .val (.int p4), .val (.int n1), .val (.int n2), .val (.int sm), .val (.int (((p4.toUInt32 >>> ((8 : Int32) &&& 31).toUInt32).toInt32).toInt8.toInt32)), .val (.ref b56), .val (.ref b57), .unset] [])
            refine own_go (fun t k => XS.iconst X67.here hx rfl (hb hby at_130) k) ?_
            show Go _ _ _ _ _ T67 (mkF m 131 #[.val (.long p1), .second, .val (.long p2), .second, .val (.int p3), .val (.int p4), .val (.int n1), .val (.int n2), .val (.int sm), .val (.int (((p4.toUInt32 >>> ((8 : Int32) &&& 31).toUInt32).toInt32).toInt8.toInt32)), .val (.ref b56), .val (.ref b57), .unset] [(.int (1 : Int32))])
            refine own_go (fun t k => XS.goto X67.here hx rfl (pc0 := 131) (pc' := 135) rfl (hb hby at_131) (by decide) (by decide) k) ?_
            show Go _ _ _ _ _ T67 (mkF m 135 #[.val (.long p1), .second, .val (.long p2), .second, .val (.int p3), .val (.int p4), .val (.int n1), .val (.int n2), .val (.int sm), .val (.int (((p4.toUInt32 >>> ((8 : Int32) &&& 31).toUInt32).toInt32).toInt8.toInt32)), .val (.ref b56), .val (.ref b57), .unset] [(.int (1 : Int32))])
            refine own_go (fun t k => XS.istore X67.here hx rfl (hb hby at_135) rfl (l' := #[.val (.long p1), .second, .val (.long p2), .second, .val (.int p3), .val (.int p4), .val (.int n1), .val (.int n2), .val (.int sm), .val (.int (((p4.toUInt32 >>> ((8 : Int32) &&& 31).toUInt32).toInt32).toInt8.toInt32)), .val (.ref b56), .val (.ref b57), .val (.int (1 : Int32))]) rfl k) ?_
            show Go _ _ _ _ _ T67 (mkF m 137 #[.val (.long p1), .second, .val (.long p2), .second, .val (.int p3), .val (.int p4), .val (.int n1), .val (.int n2), .val (.int sm), .val (.int (((p4.toUInt32 >>> ((8 : Int32) &&& 31).toUInt32).toInt32).toInt8.toInt32)), .val (.ref b56), .val (.ref b57), .val (.int (1 : Int32))] [])
            refine own_go (fun t k => XS.aload X67.here hx rfl (hb hby at_137) rfl rfl k) ?_
            show Go _ _ _ _ _ T67 (mkF m 139 #[.val (.long p1), .second, .val (.long p2), .second, .val (.int p3), .val (.int p4), .val (.int n1), .val (.int n2), .val (.int sm), .val (.int (((p4.toUInt32 >>> ((8 : Int32) &&& 31).toUInt32).toInt32).toInt8.toInt32)), .val (.ref b56), .val (.ref b57), .val (.int (1 : Int32))] [(.ref b56)])
            refine own_go (fun t k => XS.aload X67.here hx rfl (hb hby at_139) rfl rfl k) ?_
            show Go _ _ _ _ _ T67 (mkF m 141 #[.val (.long p1), .second, .val (.long p2), .second, .val (.int p3), .val (.int p4), .val (.int n1), .val (.int n2), .val (.int sm), .val (.int (((p4.toUInt32 >>> ((8 : Int32) &&& 31).toUInt32).toInt32).toInt8.toInt32)), .val (.ref b56), .val (.ref b57), .val (.int (1 : Int32))] [(.ref b57), (.ref b56)])
            refine own_callS X67 hx hZ (y := (⟨"com/example/tallyhouse/tallyhouse/fix/MadeUpMembers", "holds", "([B[B)Z"⟩ : MethodName)) hown (hw _ (List.mem_of_getElem? (i := 11) rfl)) (hw _ (List.mem_of_getElem? (i := 12) rfl)) (hw _ (List.mem_of_getElem? (i := 13) rfl)) (hw _ (List.mem_of_getElem? (i := 14) rfl)) (by decide) (rm_ho l Z a0 hw [] b56 b57 xs56 xs57 (own_holds xs56 xs57) T57.heap n0 hn57 BA56 BA57 rfl) e67 (by rw [hml]; rfl) (argsL := [(.ref b56), (.ref b57)]) (rest := []) rfl rfl (lenOf own_pd4 rfl) (W := 0) (Nat.le_of_eq rfl) (by decide) (by decide) (hb hby at_141) (by decide) (by decide) ?_
            intro v69 T69 L69 X69 q69
            obtain ⟨rfl, N69q, e69⟩ := q69
            have N69 := Fr.app N67 N69q
            show Go _ _ _ _ _ T69 (mkF m 144 #[.val (.long p1), .second, .val (.long p2), .second, .val (.int p3), .val (.int p4), .val (.int n1), .val (.int n2), .val (.int sm), .val (.int (((p4.toUInt32 >>> ((8 : Int32) &&& 31).toUInt32).toInt32).toInt8.toInt32)), .val (.ref b56), .val (.ref b57), .val (.int (1 : Int32))] [(.int (own_holds xs56 xs57))])
            refine own_go (fun t k => XS.iload X69.here hx rfl (hb hby at_144) rfl k) ?_
            have hg : (own_holds xs56 xs57) = (1 : Int32) := own_m1_fin1 hc68
            show Go _ _ _ _ _ T69 (mkF m 146 #[.val (.long p1), .second, .val (.long p2), .second, .val (.int p3), .val (.int p4), .val (.int n1), .val (.int n2), .val (.int sm), .val (.int (((p4.toUInt32 >>> ((8 : Int32) &&& 31).toUInt32).toInt32).toInt8.toInt32)), .val (.ref b56), .val (.ref b57), .val (.int (1 : Int32))] [(.int (1 : Int32)), (.int (own_holds xs56 xs57))])
            refine own_go (fun t k => XS.icmpNo X69.here hx rfl (hb hby at_146) rfl (teq hg).2 k) ?_
            show Go _ _ _ _ _ T69 (mkF m 149 #[.val (.long p1), .second, .val (.long p2), .second, .val (.int p3), .val (.int p4), .val (.int n1), .val (.int n2), .val (.int sm), .val (.int (((p4.toUInt32 >>> ((8 : Int32) &&& 31).toUInt32).toInt32).toInt8.toInt32)), .val (.ref b56), .val (.ref b57), .val (.int (1 : Int32))] [])
            refine own_go (fun t k => XS.iconst X69.here hx rfl (hb hby at_149) k) ?_
            show Go _ _ _ _ _ T69 (mkF m 150 #[.val (.long p1), .second, .val (.long p2), .second, .val (.int p3), .val (.int p4), .val (.int n1), .val (.int n2), .val (.int sm), .val (.int (((p4.toUInt32 >>> ((8 : Int32) &&& 31).toUInt32).toInt32).toInt8.toInt32)), .val (.ref b56), .val (.ref b57), .val (.int (1 : Int32))] [(.int (1 : Int32))])
            refine own_go (fun t k => XS.goto X69.here hx rfl (pc0 := 150) (pc' := 154) rfl (hb hby at_150) (by decide) (by decide) k) ?_
            show Go _ _ _ _ _ T69 (mkF m 154 #[.val (.long p1), .second, .val (.long p2), .second, .val (.int p3), .val (.int p4), .val (.int n1), .val (.int n2), .val (.int sm), .val (.int (((p4.toUInt32 >>> ((8 : Int32) &&& 31).toUInt32).toInt32).toInt8.toInt32)), .val (.ref b56), .val (.ref b57), .val (.int (1 : Int32))] [(.int (1 : Int32))])
            refine own_retN X69 hx (own_lvN X69 hlk (by decide) (by decide)) (t := .boolean) hret (by simp) (hb hby at_154) ?_
            exact ⟨rfl, N69⟩
          · skip
            show Go _ _ _ _ _ T67 (mkF m 108 #[.val (.long p1), .second, .val (.long p2), .second, .val (.int p3), .val (.int p4), .val (.int n1), .val (.int n2), .val (.int sm), .val (.int (((p4.toUInt32 >>> ((8 : Int32) &&& 31).toUInt32).toInt32).toInt8.toInt32)), .val (.ref b56), .val (.ref b57), .unset] [])
            refine own_go (fun t k => XS.aload X67.here hx rfl (hb hby at_108) rfl rfl k) ?_
            show Go _ _ _ _ _ T67 (mkF m 110 #[.val (.long p1), .second, .val (.long p2), .second, .val (.int p3), .val (.int p4), .val (.int n1), .val (.int n2), .val (.int sm), .val (.int (((p4.toUInt32 >>> ((8 : Int32) &&& 31).toUInt32).toInt32).toInt8.toInt32)), .val (.ref b56), .val (.ref b57), .unset] [(.ref b56)])
            refine own_go (fun t k => XS.aload X67.here hx rfl (hb hby at_110) rfl rfl k) ?_
            show Go _ _ _ _ _ T67 (mkF m 112 #[.val (.long p1), .second, .val (.long p2), .second, .val (.int p3), .val (.int p4), .val (.int n1), .val (.int n2), .val (.int sm), .val (.int (((p4.toUInt32 >>> ((8 : Int32) &&& 31).toUInt32).toInt32).toInt8.toInt32)), .val (.ref b56), .val (.ref b57), .unset] [(.ref b57), (.ref b56)])
            refine own_go (fun t k => XS.iconst X67.here hx rfl (hb hby at_112) k) ?_
            show Go _ _ _ _ _ T67 (mkF m 113 #[.val (.long p1), .second, .val (.long p2), .second, .val (.int p3), .val (.int p4), .val (.int n1), .val (.int n2), .val (.int sm), .val (.int (((p4.toUInt32 >>> ((8 : Int32) &&& 31).toUInt32).toInt32).toInt8.toInt32)), .val (.ref b56), .val (.ref b57), .unset] [(.int (4 : Int32)), (.ref b57), (.ref b56)])
            refine own_callS X67 hx hZ (y := (⟨"com/example/tallyhouse/tallyhouse/fix/MadeUpMembersHoldsPinLaw", "matchAt", "([B[BI)Z"⟩ : MethodName)) hown (hw _ (List.mem_of_getElem? (i := 5) rfl)) (hw _ (List.mem_of_getElem? (i := 6) rfl)) (hw _ (List.mem_of_getElem? (i := 2) rfl)) (hw _ (List.mem_of_getElem? (i := 7) rfl)) (by decide) (rm_ma l Z a0 hw [] b56 b57 xs56 xs57 4 (own_m1 xs56 xs57 4) T57.heap n0 hn57 BA56 BA57 hL57 (by decide) rfl) e67 (by rw [hml]; rfl) (argsL := [(.ref b56), (.ref b57), (.int (4 : Int32))]) (rest := []) rfl rfl (lenOf own_pd3 rfl) (W := 0) (Nat.le_of_eq rfl) (by decide) (by decide) (hb hby at_113) (by decide) (by decide) ?_
            intro v70 T70 L70 X70 q70
            obtain ⟨rfl, N70q, e70⟩ := q70
            have N70 := Fr.app N67 N70q
            show Go _ _ _ _ _ T70 (mkF m 116 #[.val (.long p1), .second, .val (.long p2), .second, .val (.int p3), .val (.int p4), .val (.int n1), .val (.int n2), .val (.int sm), .val (.int (((p4.toUInt32 >>> ((8 : Int32) &&& 31).toUInt32).toInt32).toInt8.toInt32)), .val (.ref b56), .val (.ref b57), .unset] [(.int (own_m1 xs56 xs57 4))])
            refine own_ifM ((own_m1 xs56 xs57 4) = (0 : Int32)) X70 hx (hb hby at_116) (own_ne _ _) (by decide) (by decide) (pc' := 130) (fun hc71 => ?_) (fun hc71 => ?_)
            · skip
              show Go _ _ _ _ _ T70 (mkF m 130 #[.val (.long p1), .second, .val (.long p2), .second, .val (.int p3), .val (.int p4), .val (.int n1), .val (.int n2), .val (.int sm), .val (.int (((p4.toUInt32 >>> ((8 : Int32) &&& 31).toUInt32).toInt32).toInt8.toInt32)), .val (.ref b56), .val (.ref b57), .unset] [])
              refine own_go (fun t k => XS.iconst X70.here hx rfl (hb hby at_130) k) ?_
              show Go _ _ _ _ _ T70 (mkF m 131 #[.val (.long p1), .second, .val (.long p2), .second, .val (.int p3), .val (.int p4), .val (.int n1), .val (.int n2), .val (.int sm), .val (.int (((p4.toUInt32 >>> ((8 : Int32) &&& 31).toUInt32).toInt32).toInt8.toInt32)), .val (.ref b56), .val (.ref b57), .unset] [(.int (1 : Int32))])
              refine own_go (fun t k => XS.goto X70.here hx rfl (pc0 := 131) (pc' := 135) rfl (hb hby at_131) (by decide) (by decide) k) ?_
              show Go _ _ _ _ _ T70 (mkF m 135 #[.val (.long p1), .second, .val (.long p2), .second, .val (.int p3), .val (.int p4), .val (.int n1), .val (.int n2), .val (.int sm), .val (.int (((p4.toUInt32 >>> ((8 : Int32) &&& 31).toUInt32).toInt32).toInt8.toInt32)), .val (.ref b56), .val (.ref b57), .unset] [(.int (1 : Int32))])
              refine own_go (fun t k => XS.istore X70.here hx rfl (hb hby at_135) rfl (l' := #[.val (.long p1), .second, .val (.long p2), .second, .val (.int p3), .val (.int p4), .val (.int n1), .val (.int n2), .val (.int sm), .val (.int (((p4.toUInt32 >>> ((8 : Int32) &&& 31).toUInt32).toInt32).toInt8.toInt32)), .val (.ref b56), .val (.ref b57), .val (.int (1 : Int32))]) rfl k) ?_
              show Go _ _ _ _ _ T70 (mkF m 137 #[.val (.long p1), .second, .val (.long p2), .second, .val (.int p3), .val (.int p4), .val (.int n1), .val (.int n2), .val (.int sm), .val (.int (((p4.toUInt32 >>> ((8 : Int32) &&& 31).toUInt32).toInt32).toInt8.toInt32)), .val (.ref b56), .val (.ref b57), .val (.int (1 : Int32))] [])
              refine own_go (fun t k => XS.aload X70.here hx rfl (hb hby at_137) rfl rfl k) ?_
              show Go _ _ _ _ _ T70 (mkF m 139 #[.val (.long p1), .second, .val (.long p2), .second, .val (.int p3), .val (.int p4), .val (.int n1), .val (.int n2), .val (.int sm), .val (.int (((p4.toUInt32 >>> ((8 : Int32) &&& 31).toUInt32).toInt32).toInt8.toInt32)), .val (.ref b56), .val (.ref b57), .val (.int (1 : Int32))] [(.ref b56)])
              refine own_go (fun t k => XS.aload X70.here hx rfl (hb hby at_139) rfl rfl k) ?_
              show Go _ _ _ _ _ T70 (mkF m 141 #[.val (.long p1), .second, .val (.long p2), .second, .val (.int p3), .val (.int p4), .val (.int n1), .val (.int n2), .val (.int sm), .val (.int (((p4.toUInt32 >>> ((8 : Int32) &&& 31).toUInt32).toInt32).toInt8.toInt32)), .val (.ref b56), .val (.ref b57), .val (.int (1 : Int32))] [(.ref b57), (.ref b56)])
              refine own_callS X70 hx hZ (y := (⟨"com/example/tallyhouse/tallyhouse/fix/MadeUpMembers", "holds", "([B[B)Z"⟩ : MethodName)) hown (hw _ (List.mem_of_getElem? (i := 11) rfl)) (hw _ (List.mem_of_getElem? (i := 12) rfl)) (hw _ (List.mem_of_getElem? (i := 13) rfl)) (hw _ (List.mem_of_getElem? (i := 14) rfl)) (by decide) (rm_ho l Z a0 hw [] b56 b57 xs56 xs57 (own_holds xs56 xs57) T57.heap n0 hn57 BA56 BA57 rfl) e70 (by rw [hml]; rfl) (argsL := [(.ref b56), (.ref b57)]) (rest := []) rfl rfl (lenOf own_pd4 rfl) (W := 0) (Nat.le_of_eq rfl) (by decide) (by decide) (hb hby at_141) (by decide) (by decide) ?_
              intro v72 T72 L72 X72 q72
              obtain ⟨rfl, N72q, e72⟩ := q72
              have N72 := Fr.app N70 N72q
              show Go _ _ _ _ _ T72 (mkF m 144 #[.val (.long p1), .second, .val (.long p2), .second, .val (.int p3), .val (.int p4), .val (.int n1), .val (.int n2), .val (.int sm), .val (.int (((p4.toUInt32 >>> ((8 : Int32) &&& 31).toUInt32).toInt32).toInt8.toInt32)), .val (.ref b56), .val (.ref b57), .val (.int (1 : Int32))] [(.int (own_holds xs56 xs57))])
              refine own_go (fun t k => XS.iload X72.here hx rfl (hb hby at_144) rfl k) ?_
              have hg : (own_holds xs56 xs57) = (1 : Int32) := own_m1_fin1 hc71
              show Go _ _ _ _ _ T72 (mkF m 146 #[.val (.long p1), .second, .val (.long p2), .second, .val (.int p3), .val (.int p4), .val (.int n1), .val (.int n2), .val (.int sm), .val (.int (((p4.toUInt32 >>> ((8 : Int32) &&& 31).toUInt32).toInt32).toInt8.toInt32)), .val (.ref b56), .val (.ref b57), .val (.int (1 : Int32))] [(.int (1 : Int32)), (.int (own_holds xs56 xs57))])
              refine own_go (fun t k => XS.icmpNo X72.here hx rfl (hb hby at_146) rfl (teq hg).2 k) ?_
              show Go _ _ _ _ _ T72 (mkF m 149 #[.val (.long p1), .second, .val (.long p2), .second, .val (.int p3), .val (.int p4), .val (.int n1), .val (.int n2), .val (.int sm), .val (.int (((p4.toUInt32 >>> ((8 : Int32) &&& 31).toUInt32).toInt32).toInt8.toInt32)), .val (.ref b56), .val (.ref b57), .val (.int (1 : Int32))] [])
              refine own_go (fun t k => XS.iconst X72.here hx rfl (hb hby at_149) k) ?_
              show Go _ _ _ _ _ T72 (mkF m 150 #[.val (.long p1), .second, .val (.long p2), .second, .val (.int p3), .val (.int p4), .val (.int n1), .val (.int n2), .val (.int sm), .val (.int (((p4.toUInt32 >>> ((8 : Int32) &&& 31).toUInt32).toInt32).toInt8.toInt32)), .val (.ref b56), .val (.ref b57), .val (.int (1 : Int32))] [(.int (1 : Int32))])
              refine own_go (fun t k => XS.goto X72.here hx rfl (pc0 := 150) (pc' := 154) rfl (hb hby at_150) (by decide) (by decide) k) ?_
              show Go _ _ _ _ _ T72 (mkF m 154 #[.val (.long p1), .second, .val (.long p2), .second, .val (.int p3), .val (.int p4), .val (.int n1), .val (.int n2), .val (.int sm), .val (.int (((p4.toUInt32 >>> ((8 : Int32) &&& 31).toUInt32).toInt32).toInt8.toInt32)), .val (.ref b56), .val (.ref b57), .val (.int (1 : Int32))] [(.int (1 : Int32))])
              refine own_retN X72 hx (own_lvN X72 hlk (by decide) (by decide)) (t := .boolean) hret (by simp) (hb hby at_154) ?_
              exact ⟨rfl, N72⟩
            · skip
              show Go _ _ _ _ _ T70 (mkF m 119 #[.val (.long p1), .second, .val (.long p2), .second, .val (.int p3), .val (.int p4), .val (.int n1), .val (.int n2), .val (.int sm), .val (.int (((p4.toUInt32 >>> ((8 : Int32) &&& 31).toUInt32).toInt32).toInt8.toInt32)), .val (.ref b56), .val (.ref b57), .unset] [])
              refine own_go (fun t k => XS.aload X70.here hx rfl (hb hby at_119) rfl rfl k) ?_
              show Go _ _ _ _ _ T70 (mkF m 121 #[.val (.long p1), .second, .val (.long p2), .second, .val (.int p3), .val (.int p4), .val (.int n1), .val (.int n2), .val (.int sm), .val (.int (((p4.toUInt32 >>> ((8 : Int32) &&& 31).toUInt32).toInt32).toInt8.toInt32)), .val (.ref b56), .val (.ref b57), .unset] [(.ref b56)])
              refine own_go (fun t k => XS.aload X70.here hx rfl (hb hby at_121) rfl rfl k) ?_
              show Go _ _ _ _ _ T70 (mkF m 123 #[.val (.long p1), .second, .val (.long p2), .second, .val (.int p3), .val (.int p4), .val (.int n1), .val (.int n2), .val (.int sm), .val (.int (((p4.toUInt32 >>> ((8 : Int32) &&& 31).toUInt32).toInt32).toInt8.toInt32)), .val (.ref b56), .val (.ref b57), .unset] [(.ref b57), (.ref b56)])
              refine own_go (fun t k => XS.iconst X70.here hx rfl (hb hby at_123) k) ?_
              show Go _ _ _ _ _ T70 (mkF m 124 #[.val (.long p1), .second, .val (.long p2), .second, .val (.int p3), .val (.int p4), .val (.int n1), .val (.int n2), .val (.int sm), .val (.int (((p4.toUInt32 >>> ((8 : Int32) &&& 31).toUInt32).toInt32).toInt8.toInt32)), .val (.ref b56), .val (.ref b57), .unset] [(.int (5 : Int32)), (.ref b57), (.ref b56)])
              refine own_callS X70 hx hZ (y := (⟨"com/example/tallyhouse/tallyhouse/fix/MadeUpMembersHoldsPinLaw", "matchAt", "([B[BI)Z"⟩ : MethodName)) hown (hw _ (List.mem_of_getElem? (i := 5) rfl)) (hw _ (List.mem_of_getElem? (i := 6) rfl)) (hw _ (List.mem_of_getElem? (i := 2) rfl)) (hw _ (List.mem_of_getElem? (i := 7) rfl)) (by decide) (rm_ma l Z a0 hw [] b56 b57 xs56 xs57 5 (own_m1 xs56 xs57 5) T57.heap n0 hn57 BA56 BA57 hL57 (by decide) rfl) e70 (by rw [hml]; rfl) (argsL := [(.ref b56), (.ref b57), (.int (5 : Int32))]) (rest := []) rfl rfl (lenOf own_pd3 rfl) (W := 0) (Nat.le_of_eq rfl) (by decide) (by decide) (hb hby at_124) (by decide) (by decide) ?_
              intro v73 T73 L73 X73 q73
              obtain ⟨rfl, N73q, e73⟩ := q73
              have N73 := Fr.app N70 N73q
              show Go _ _ _ _ _ T73 (mkF m 127 #[.val (.long p1), .second, .val (.long p2), .second, .val (.int p3), .val (.int p4), .val (.int n1), .val (.int n2), .val (.int sm), .val (.int (((p4.toUInt32 >>> ((8 : Int32) &&& 31).toUInt32).toInt32).toInt8.toInt32)), .val (.ref b56), .val (.ref b57), .unset] [(.int (own_m1 xs56 xs57 5))])
              refine own_ifP ((own_m1 xs56 xs57 5) = (0 : Int32)) X73 hx (hb hby at_127) (own_eq _ _) (by decide) (by decide) (pc' := 134) (fun hc74 => ?_) (fun hc74 => ?_)
              · skip
                show Go _ _ _ _ _ T73 (mkF m 134 #[.val (.long p1), .second, .val (.long p2), .second, .val (.int p3), .val (.int p4), .val (.int n1), .val (.int n2), .val (.int sm), .val (.int (((p4.toUInt32 >>> ((8 : Int32) &&& 31).toUInt32).toInt32).toInt8.toInt32)), .val (.ref b56), .val (.ref b57), .unset] [])
                refine own_go (fun t k => XS.iconst X73.here hx rfl (hb hby at_134) k) ?_
                show Go _ _ _ _ _ T73 (mkF m 135 #[.val (.long p1), .second, .val (.long p2), .second, .val (.int p3), .val (.int p4), .val (.int n1), .val (.int n2), .val (.int sm), .val (.int (((p4.toUInt32 >>> ((8 : Int32) &&& 31).toUInt32).toInt32).toInt8.toInt32)), .val (.ref b56), .val (.ref b57), .unset] [(.int (0 : Int32))])
                refine own_go (fun t k => XS.istore X73.here hx rfl (hb hby at_135) rfl (l' := #[.val (.long p1), .second, .val (.long p2), .second, .val (.int p3), .val (.int p4), .val (.int n1), .val (.int n2), .val (.int sm), .val (.int (((p4.toUInt32 >>> ((8 : Int32) &&& 31).toUInt32).toInt32).toInt8.toInt32)), .val (.ref b56), .val (.ref b57), .val (.int (0 : Int32))]) rfl k) ?_
                show Go _ _ _ _ _ T73 (mkF m 137 #[.val (.long p1), .second, .val (.long p2), .second, .val (.int p3), .val (.int p4), .val (.int n1), .val (.int n2), .val (.int sm), .val (.int (((p4.toUInt32 >>> ((8 : Int32) &&& 31).toUInt32).toInt32).toInt8.toInt32)), .val (.ref b56), .val (.ref b57), .val (.int (0 : Int32))] [])
                refine own_go (fun t k => XS.aload X73.here hx rfl (hb hby at_137) rfl rfl k) ?_
                show Go _ _ _ _ _ T73 (mkF m 139 #[.val (.long p1), .second, .val (.long p2), .second, .val (.int p3), .val (.int p4), .val (.int n1), .val (.int n2), .val (.int sm), .val (.int (((p4.toUInt32 >>> ((8 : Int32) &&& 31).toUInt32).toInt32).toInt8.toInt32)), .val (.ref b56), .val (.ref b57), .val (.int (0 : Int32))] [(.ref b56)])
                refine own_go (fun t k => XS.aload X73.here hx rfl (hb hby at_139) rfl rfl k) ?_
                show Go _ _ _ _ _ T73 (mkF m 141 #[.val (.long p1), .second, .val (.long p2), .second, .val (.int p3), .val (.int p4), .val (.int n1), .val (.int n2), .val (.int sm), .val (.int (((p4.toUInt32 >>> ((8 : Int32) &&& 31).toUInt32).toInt32).toInt8.toInt32)), .val (.ref b56), .val (.ref b57), .val (.int (0 : Int32))] [(.ref b57), (.ref b56)])
                refine own_callS X73 hx hZ (y := (⟨"com/example/tallyhouse/tallyhouse/fix/MadeUpMembers", "holds", "([B[B)Z"⟩ : MethodName)) hown (hw _ (List.mem_of_getElem? (i := 11) rfl)) (hw _ (List.mem_of_getElem? (i := 12) rfl)) (hw _ (List.mem_of_getElem? (i := 13) rfl)) (hw _ (List.mem_of_getElem? (i := 14) rfl)) (by decide) (rm_ho l Z a0 hw [] b56 b57 xs56 xs57 (own_holds xs56 xs57) T57.heap n0 hn57 BA56 BA57 rfl) e73 (by rw [hml]; rfl) (argsL := [(.ref b56), (.ref b57)]) (rest := []) rfl rfl (lenOf own_pd4 rfl) (W := 0) (Nat.le_of_eq rfl) (by decide) (by decide) (hb hby at_141) (by decide) (by decide) ?_
                intro v75 T75 L75 X75 q75
                obtain ⟨rfl, N75q, e75⟩ := q75
                have N75 := Fr.app N73 N75q
                show Go _ _ _ _ _ T75 (mkF m 144 #[.val (.long p1), .second, .val (.long p2), .second, .val (.int p3), .val (.int p4), .val (.int n1), .val (.int n2), .val (.int sm), .val (.int (((p4.toUInt32 >>> ((8 : Int32) &&& 31).toUInt32).toInt32).toInt8.toInt32)), .val (.ref b56), .val (.ref b57), .val (.int (0 : Int32))] [(.int (own_holds xs56 xs57))])
                refine own_go (fun t k => XS.iload X75.here hx rfl (hb hby at_144) rfl k) ?_
                have hg : (own_holds xs56 xs57) = (0 : Int32) := own_m1_fin0 hL56 hc59 hc62 hc65 hc68 hc71 hc74
                show Go _ _ _ _ _ T75 (mkF m 146 #[.val (.long p1), .second, .val (.long p2), .second, .val (.int p3), .val (.int p4), .val (.int n1), .val (.int n2), .val (.int sm), .val (.int (((p4.toUInt32 >>> ((8 : Int32) &&& 31).toUInt32).toInt32).toInt8.toInt32)), .val (.ref b56), .val (.ref b57), .val (.int (0 : Int32))] [(.int (0 : Int32)), (.int (own_holds xs56 xs57))])
                refine own_go (fun t k => XS.icmpNo X75.here hx rfl (hb hby at_146) rfl (teq hg).2 k) ?_
                show Go _ _ _ _ _ T75 (mkF m 149 #[.val (.long p1), .second, .val (.long p2), .second, .val (.int p3), .val (.int p4), .val (.int n1), .val (.int n2), .val (.int sm), .val (.int (((p4.toUInt32 >>> ((8 : Int32) &&& 31).toUInt32).toInt32).toInt8.toInt32)), .val (.ref b56), .val (.ref b57), .val (.int (0 : Int32))] [])
                refine own_go (fun t k => XS.iconst X75.here hx rfl (hb hby at_149) k) ?_
                show Go _ _ _ _ _ T75 (mkF m 150 #[.val (.long p1), .second, .val (.long p2), .second, .val (.int p3), .val (.int p4), .val (.int n1), .val (.int n2), .val (.int sm), .val (.int (((p4.toUInt32 >>> ((8 : Int32) &&& 31).toUInt32).toInt32).toInt8.toInt32)), .val (.ref b56), .val (.ref b57), .val (.int (0 : Int32))] [(.int (1 : Int32))])
                refine own_go (fun t k => XS.goto X75.here hx rfl (pc0 := 150) (pc' := 154) rfl (hb hby at_150) (by decide) (by decide) k) ?_
                show Go _ _ _ _ _ T75 (mkF m 154 #[.val (.long p1), .second, .val (.long p2), .second, .val (.int p3), .val (.int p4), .val (.int n1), .val (.int n2), .val (.int sm), .val (.int (((p4.toUInt32 >>> ((8 : Int32) &&& 31).toUInt32).toInt32).toInt8.toInt32)), .val (.ref b56), .val (.ref b57), .val (.int (0 : Int32))] [(.int (1 : Int32))])
                refine own_retN X75 hx (own_lvN X75 hlk (by decide) (by decide)) (t := .boolean) hret (by simp) (hb hby at_154) ?_
                exact ⟨rfl, N75⟩
              · skip
                show Go _ _ _ _ _ T73 (mkF m 130 #[.val (.long p1), .second, .val (.long p2), .second, .val (.int p3), .val (.int p4), .val (.int n1), .val (.int n2), .val (.int sm), .val (.int (((p4.toUInt32 >>> ((8 : Int32) &&& 31).toUInt32).toInt32).toInt8.toInt32)), .val (.ref b56), .val (.ref b57), .unset] [])
                refine own_go (fun t k => XS.iconst X73.here hx rfl (hb hby at_130) k) ?_
                show Go _ _ _ _ _ T73 (mkF m 131 #[.val (.long p1), .second, .val (.long p2), .second, .val (.int p3), .val (.int p4), .val (.int n1), .val (.int n2), .val (.int sm), .val (.int (((p4.toUInt32 >>> ((8 : Int32) &&& 31).toUInt32).toInt32).toInt8.toInt32)), .val (.ref b56), .val (.ref b57), .unset] [(.int (1 : Int32))])
                refine own_go (fun t k => XS.goto X73.here hx rfl (pc0 := 131) (pc' := 135) rfl (hb hby at_131) (by decide) (by decide) k) ?_
                show Go _ _ _ _ _ T73 (mkF m 135 #[.val (.long p1), .second, .val (.long p2), .second, .val (.int p3), .val (.int p4), .val (.int n1), .val (.int n2), .val (.int sm), .val (.int (((p4.toUInt32 >>> ((8 : Int32) &&& 31).toUInt32).toInt32).toInt8.toInt32)), .val (.ref b56), .val (.ref b57), .unset] [(.int (1 : Int32))])
                refine own_go (fun t k => XS.istore X73.here hx rfl (hb hby at_135) rfl (l' := #[.val (.long p1), .second, .val (.long p2), .second, .val (.int p3), .val (.int p4), .val (.int n1), .val (.int n2), .val (.int sm), .val (.int (((p4.toUInt32 >>> ((8 : Int32) &&& 31).toUInt32).toInt32).toInt8.toInt32)), .val (.ref b56), .val (.ref b57), .val (.int (1 : Int32))]) rfl k) ?_
                show Go _ _ _ _ _ T73 (mkF m 137 #[.val (.long p1), .second, .val (.long p2), .second, .val (.int p3), .val (.int p4), .val (.int n1), .val (.int n2), .val (.int sm), .val (.int (((p4.toUInt32 >>> ((8 : Int32) &&& 31).toUInt32).toInt32).toInt8.toInt32)), .val (.ref b56), .val (.ref b57), .val (.int (1 : Int32))] [])
                refine own_go (fun t k => XS.aload X73.here hx rfl (hb hby at_137) rfl rfl k) ?_
                show Go _ _ _ _ _ T73 (mkF m 139 #[.val (.long p1), .second, .val (.long p2), .second, .val (.int p3), .val (.int p4), .val (.int n1), .val (.int n2), .val (.int sm), .val (.int (((p4.toUInt32 >>> ((8 : Int32) &&& 31).toUInt32).toInt32).toInt8.toInt32)), .val (.ref b56), .val (.ref b57), .val (.int (1 : Int32))] [(.ref b56)])
                refine own_go (fun t k => XS.aload X73.here hx rfl (hb hby at_139) rfl rfl k) ?_
                show Go _ _ _ _ _ T73 (mkF m 141 #[.val (.long p1), .second, .val (.long p2), .second, .val (.int p3), .val (.int p4), .val (.int n1), .val (.int n2), .val (.int sm), .val (.int (((p4.toUInt32 >>> ((8 : Int32) &&& 31).toUInt32).toInt32).toInt8.toInt32)), .val (.ref b56), .val (.ref b57), .val (.int (1 : Int32))] [(.ref b57), (.ref b56)])
                refine own_callS X73 hx hZ (y := (⟨"com/example/tallyhouse/tallyhouse/fix/MadeUpMembers", "holds", "([B[B)Z"⟩ : MethodName)) hown (hw _ (List.mem_of_getElem? (i := 11) rfl)) (hw _ (List.mem_of_getElem? (i := 12) rfl)) (hw _ (List.mem_of_getElem? (i := 13) rfl)) (hw _ (List.mem_of_getElem? (i := 14) rfl)) (by decide) (rm_ho l Z a0 hw [] b56 b57 xs56 xs57 (own_holds xs56 xs57) T57.heap n0 hn57 BA56 BA57 rfl) e73 (by rw [hml]; rfl) (argsL := [(.ref b56), (.ref b57)]) (rest := []) rfl rfl (lenOf own_pd4 rfl) (W := 0) (Nat.le_of_eq rfl) (by decide) (by decide) (hb hby at_141) (by decide) (by decide) ?_
                intro v76 T76 L76 X76 q76
                obtain ⟨rfl, N76q, e76⟩ := q76
                have N76 := Fr.app N73 N76q
                show Go _ _ _ _ _ T76 (mkF m 144 #[.val (.long p1), .second, .val (.long p2), .second, .val (.int p3), .val (.int p4), .val (.int n1), .val (.int n2), .val (.int sm), .val (.int (((p4.toUInt32 >>> ((8 : Int32) &&& 31).toUInt32).toInt32).toInt8.toInt32)), .val (.ref b56), .val (.ref b57), .val (.int (1 : Int32))] [(.int (own_holds xs56 xs57))])
                refine own_go (fun t k => XS.iload X76.here hx rfl (hb hby at_144) rfl k) ?_
                have hg : (own_holds xs56 xs57) = (1 : Int32) := own_m1_fin1 hc74
                show Go _ _ _ _ _ T76 (mkF m 146 #[.val (.long p1), .second, .val (.long p2), .second, .val (.int p3), .val (.int p4), .val (.int n1), .val (.int n2), .val (.int sm), .val (.int (((p4.toUInt32 >>> ((8 : Int32) &&& 31).toUInt32).toInt32).toInt8.toInt32)), .val (.ref b56), .val (.ref b57), .val (.int (1 : Int32))] [(.int (1 : Int32)), (.int (own_holds xs56 xs57))])
                refine own_go (fun t k => XS.icmpNo X76.here hx rfl (hb hby at_146) rfl (teq hg).2 k) ?_
                show Go _ _ _ _ _ T76 (mkF m 149 #[.val (.long p1), .second, .val (.long p2), .second, .val (.int p3), .val (.int p4), .val (.int n1), .val (.int n2), .val (.int sm), .val (.int (((p4.toUInt32 >>> ((8 : Int32) &&& 31).toUInt32).toInt32).toInt8.toInt32)), .val (.ref b56), .val (.ref b57), .val (.int (1 : Int32))] [])
                refine own_go (fun t k => XS.iconst X76.here hx rfl (hb hby at_149) k) ?_
                show Go _ _ _ _ _ T76 (mkF m 150 #[.val (.long p1), .second, .val (.long p2), .second, .val (.int p3), .val (.int p4), .val (.int n1), .val (.int n2), .val (.int sm), .val (.int (((p4.toUInt32 >>> ((8 : Int32) &&& 31).toUInt32).toInt32).toInt8.toInt32)), .val (.ref b56), .val (.ref b57), .val (.int (1 : Int32))] [(.int (1 : Int32))])
                refine own_go (fun t k => XS.goto X76.here hx rfl (pc0 := 150) (pc' := 154) rfl (hb hby at_150) (by decide) (by decide) k) ?_
                show Go _ _ _ _ _ T76 (mkF m 154 #[.val (.long p1), .second, .val (.long p2), .second, .val (.int p3), .val (.int p4), .val (.int n1), .val (.int n2), .val (.int sm), .val (.int (((p4.toUInt32 >>> ((8 : Int32) &&& 31).toUInt32).toInt32).toInt8.toInt32)), .val (.ref b56), .val (.ref b57), .val (.int (1 : Int32))] [(.int (1 : Int32))])
                refine own_retN X76 hx (own_lvN X76 hlk (by decide) (by decide)) (t := .boolean) hret (by simp) (hb hby at_154) ?_
                exact ⟨rfl, N76⟩
  show Go _ _ _ _ _ s₁ (mkF m 22 #[.val (.long p1), .second, .val (.long p2), .second, .val (.int p3), .val (.int p4), .val (.int n1), .val (.int n2), .unset, .unset, .unset, .unset, .unset] [(.int (p4 &&& (1 : Int32)))])
  refine own_ifP ((p4 &&& (1 : Int32)) = (0 : Int32)) X0 hx (hb hby at_22) (own_eq _ _) (by decide) (by decide) (pc' := 29) (fun hc77 => ?_) (fun hc77 => ?_)
  · skip
    show Go _ _ _ _ _ s₁ (mkF m 29 #[.val (.long p1), .second, .val (.long p2), .second, .val (.int p3), .val (.int p4), .val (.int n1), .val (.int n2), .unset, .unset, .unset, .unset, .unset] [])
    refine own_go (fun t k => XS.iconst X0.here hx rfl (hb hby at_29) k) ?_
    show Go _ _ _ _ _ s₁ (mkF m 30 #[.val (.long p1), .second, .val (.long p2), .second, .val (.int p3), .val (.int p4), .val (.int n1), .val (.int n2), .unset, .unset, .unset, .unset, .unset] [(.int (0 : Int32))])
    refine own_go (fun t k => XS.istore X0.here hx rfl (hb hby at_30) rfl (l' := #[.val (.long p1), .second, .val (.long p2), .second, .val (.int p3), .val (.int p4), .val (.int n1), .val (.int n2), .val (.int (0 : Int32)), .unset, .unset, .unset, .unset]) rfl k) ?_
    show Go _ _ _ _ _ s₁ (mkF m 32 #[.val (.long p1), .second, .val (.long p2), .second, .val (.int p3), .val (.int p4), .val (.int n1), .val (.int n2), .val (.int (0 : Int32)), .unset, .unset, .unset, .unset] [])
    exact J55 (0 : Int32)
  · skip
    show Go _ _ _ _ _ s₁ (mkF m 25 #[.val (.long p1), .second, .val (.long p2), .second, .val (.int p3), .val (.int p4), .val (.int n1), .val (.int n2), .unset, .unset, .unset, .unset, .unset] [])
    refine own_go (fun t k => XS.iconst X0.here hx rfl (hb hby at_25) k) ?_
    show Go _ _ _ _ _ s₁ (mkF m 26 #[.val (.long p1), .second, .val (.long p2), .second, .val (.int p3), .val (.int p4), .val (.int n1), .val (.int n2), .unset, .unset, .unset, .unset, .unset] [(.int (1 : Int32))])
    refine own_go (fun t k => XS.goto X0.here hx rfl (pc0 := 26) (pc' := 30) rfl (hb hby at_26) (by decide) (by decide) k) ?_
    show Go _ _ _ _ _ s₁ (mkF m 30 #[.val (.long p1), .second, .val (.long p2), .second, .val (.int p3), .val (.int p4), .val (.int n1), .val (.int n2), .unset, .unset, .unset, .unset, .unset] [(.int (1 : Int32))])
    refine own_go (fun t k => XS.istore X0.here hx rfl (hb hby at_30) rfl (l' := #[.val (.long p1), .second, .val (.long p2), .second, .val (.int p3), .val (.int p4), .val (.int n1), .val (.int n2), .val (.int (1 : Int32)), .unset, .unset, .unset, .unset]) rfl k) ?_
    show Go _ _ _ _ _ s₁ (mkF m 32 #[.val (.long p1), .second, .val (.long p2), .second, .val (.int p3), .val (.int p4), .val (.int n1), .val (.int n2), .val (.int (1 : Int32)), .unset, .unset, .unset, .unset] [])
    exact J55 (1 : Int32)
set_option maxRecDepth 65536 in
set_option maxHeartbeats 40000000 in
theorem comes_1 {Post : Tables → Env → Array Value → State → Outcome → State → Prop} (hpost : ∀ tb e args s v u, (limb_1_1.after args s (.returned v) u = true ∧ limb_1_2.after args s (.returned v) u = true ∧ True) → FrameEnd s (.returned v) u (Jvm.fieldLocs frame_1_writes args s ++ Jvm.arrayLocs frame_1_arrays args s ++ Jvm.staticLocs frame_1_statics s) 16 128 → Post tb e args s (.returned v) u) :
    ArmFor flags0 classFile x code maxLocals ret World_1 tables_1 room_1 Calls_1 rest_1 Pre_1 Post := by
  intro l hfl _ _ p e ha hc hk s m args below hf hA hF happ hP
  obtain ⟨hcalls, hrest, hpre⟩ := hP
  obtain ⟨-, -, -, hnamed, -, -, -, hat⟩ := (Spec.applies_iff hf).mp happ
  obtain ⟨hg, hn⟩ := and_e (Cond.before_iff.mp (show (Jvm.Cond.and given_1 narrow_1).before args s = true from hpre))
  obtain ⟨g1, g2⟩ := and_e hg
  obtain ⟨g3, g4⟩ := and_e g2
  obtain ⟨g5, g6⟩ := and_e g4
  obtain ⟨g7, g8⟩ := and_e g6
  obtain ⟨w0, w1, w2, w3, rfl⟩ : ∃ w0 w1 w2 w3 : Value, args = #[w0, w1, w2, w3] := by
    have hs : args.size = 4 := by simpa [Cond.value, given_1] using g1
    obtain ⟨L⟩ := args
    match L, hs with
    | [w0, w1, w2, w3], _ => exact ⟨w0, w1, w2, w3, rfl⟩
  have hw := fun d (hd : d ∈ tables_1) => atoms_spec (ws := Jvm.Cond.code x code maxLocals ret :: tables_1) hat d (List.mem_cons_of_mem _ hd)
  obtain ⟨i0, ei0⟩ := isL_v g3
  obtain rfl : w0 = (.long i0) := Option.some.inj ei0
  obtain ⟨i1, ei1⟩ := isL_v g5
  obtain rfl : w1 = (.long i1) := Option.some.inj ei1
  obtain ⟨i2, ei2⟩ := is_v g7
  obtain rfl : w2 = (.int i2) := Option.some.inj ei2
  obtain ⟨i3, ei3⟩ := is_v g8
  obtain rfl : w3 = (.int i3) := Option.some.inj ei3
  obtain ⟨n, o, h1, h2, h3, _, L, rfl, ⟨rfl, N⟩, hq⟩ := rm0 l s _ hw tables_1 i0 i1 i2 i3   s.heap s.heap.size (Nat.le_refl _)   p e ha hc hk s m _ below hf ((Spec.applies_iff_loose hf).mp happ).1 ⟨rfl, State.Warmed39.refl s, rfl⟩ trivial
  refine ⟨n, _, h1, h2, h3, hpost _ _ _ _ _ _ ⟨Cond.after_iff.mpr rfl, Cond.after_iff.mpr (eq_i res_at (Term.int_eval (1)) rfl), trivial⟩ ⟨hq.1, hq.2.1, (hq.2.2.sift fun y hy => Or.inr (N y hy)).mono (by decide) (by decide)⟩⟩
theorem main_1_1 : Claimed_1_1 := comes_1 fun _ _ _ _ _ _ h hF => ⟨h.1, hF⟩
theorem main_1_2 : Claimed_1_2 := comes_1 fun _ _ _ _ _ _ h hF => ⟨h.2.1, hF⟩
end Jvm.Pilot.@@N@@
namespace Jvm.Pilot.@@N@@
open Jvm Jvm.ClassFile Sem Op Lib Jvm.Free Jvm.Stand Jvm.Pilot.@@N@@.Jvm.D
/-! MADE BY PROGRAM (witnessworld.py) out of the Statement's table words and the real class files: 9 classes; the members and pool entries that the words name. The judged class is class 1, her method 1. -/
namespace start1
open Jvm.ClassFile
def u (s : String) : CpInfo := .utf8 (stringToUtf16 s)
/-- a pool by its gaps: so many unusable entries, then the entry; so many at the end -/
def gap : Nat → List CpInfo → List CpInfo
  | 0, r => r
  | n + 1, r => .unusable :: gap n r
def poolList (es : List (Nat × CpInfo)) (last : Nat) : List CpInfo := es.foldr (fun e r => gap e.1 (e.2 :: r)) (gap last [])
def pool (es : List (Nat × CpInfo)) (last : Nat) : Array CpInfo := ⟨poolList es last⟩
def fileOf (pool : Array CpInfo) (this : Nat) (attrs : Array Attribute := #[]) (ms : Array MethodInfo := #[]) (fl : Nat := 33) (sup : Nat := 0) (ifs : Array Nat := #[]) (fds : Array FieldInfo := #[]) : ClassFile where
  minorVersion := 0
  majorVersion := 65
  constantPool := pool
  accessFlags := fl
  thisClass := this
  superClass := sup
  interfaces := ifs
  fields := fds
  methods := ms
  attributes := attrs
def plain (name : String) (sup : Option ClassId) : Class where
  name := name
  kind := .ordinary
  loader := none
  accessFlags := 33
  super := sup
  interfaces := #[]
  cf := none
  fields := #[]
  methods := #[]
  instanceTypes := #[]
  staticTypes := #[]
  resolved := #[]
  callSites := []
  init := .initialized
  statics := none
  mirror := none

def pool0 : Array CpInfo := pool [(5, u "<init>"), (0, u "()V"), (1, .class_ 10), (1, u "java/lang/Object")] 113

def k0m0 : Method := { name := "<init>", desc := "()V", sig := { parameters := [], returnType := none }, accessFlags := 1, code := none }
/-- java/lang/Object -/
def k0 : Class := { plain "java/lang/Object" none with
  accessFlags := 33
  interfaces := #[]
  cf := some (fileOf pool0 8 #[] #[{ accessFlags := 1, nameIndex := 5, descriptorIndex := 6, attributes := #[] }] 33 0 #[] #[])
  fields := #[]
  methods := #[k0m0]
  instanceTypes := #[]
  staticTypes := #[]
  resolved := Array.replicate 124 none
  statics := none }

def pool1 : Array CpInfo := pool [(2, .class_ 4), (1, u "java/lang/Object"), (0, u "<init>"), (0, u "()V"), (0, .methodref 8 9), (0, .class_ 10), (0, .nameAndType 11 12), (0, u "com/example/tallyhouse/tallyhouse/fix/MadeUpMembersHoldsPinLaw"), (0, u "make"), (0, u "(IJZB)[B"), (0, .methodref 8 14), (0, .nameAndType 15 16), (0, u "matchAt"), (0, u "([B[BI)Z"), (0, .methodref 18 19), (0, .class_ 20), (0, .nameAndType 21 22), (0, u "com/example/tallyhouse/tallyhouse/fix/MadeUpMembers"), (0, u "holds"), (0, u "([B[B)Z"), (0, .methodref 8 24), (0, .nameAndType 25 26), (0, u "b"), (0, u "(JIZB)B"), (0, .methodref 8 28), (0, .nameAndType 29 30), (0, u "eq"), (0, u "([B[BII)Z"), (2, u "law"), (0, u "(JJII)Z")] 5

def k1m0 : Method := { name := "<init>", desc := "()V", sig := { parameters := [], returnType := none }, accessFlags := 2, code := none }
def k1c1 : Code := { maxStack := 5, maxLocals := 13, code := code, exceptionTable := #[], attributes := #[] }
def k1m1 : Method := { name := "law", desc := "(JJII)Z", sig := { parameters := [.long, .long, .int, .int], returnType := some .boolean }, accessFlags := 9, code := some k1c1 }
def k1c2 : Code := { maxStack := 4, maxLocals := 6, code := method_3_code, exceptionTable := #[], attributes := #[] }
def k1m2 : Method := { name := "b", desc := "(JIZB)B", sig := { parameters := [.long, .int, .boolean, .byte], returnType := some .byte }, accessFlags := 10, code := some k1c2 }
def k1c3 : Code := { maxStack := 7, maxLocals := 6, code := method_4_code, exceptionTable := #[], attributes := #[] }
def k1m3 : Method := { name := "make", desc := "(IJZB)[B", sig := { parameters := [.int, .long, .boolean, .byte], returnType := some (.array .byte) }, accessFlags := 10, code := some k1c3 }
def k1c4 : Code := { maxStack := 3, maxLocals := 4, code := method_5_code, exceptionTable := #[], attributes := #[] }
def k1m4 : Method := { name := "eq", desc := "([B[BII)Z", sig := { parameters := [(.array .byte), (.array .byte), .int, .int], returnType := some .boolean }, accessFlags := 10, code := some k1c4 }
def k1c5 : Code := { maxStack := 4, maxLocals := 3, code := method_6_code, exceptionTable := #[], attributes := #[] }
def k1m5 : Method := { name := "matchAt", desc := "([B[BI)Z", sig := { parameters := [(.array .byte), (.array .byte), .int], returnType := some .boolean }, accessFlags := 10, code := some k1c5 }
/-- com/example/tallyhouse/tallyhouse/fix/MadeUpMembersHoldsPinLaw -/
def k1 : Class := { plain "com/example/tallyhouse/tallyhouse/fix/MadeUpMembersHoldsPinLaw" (some 0) with
  accessFlags := 49
  interfaces := #[]
  cf := some (fileOf pool1 8 #[] #[{ accessFlags := 2, nameIndex := 5, descriptorIndex := 6, attributes := #[] }, { accessFlags := 9, nameIndex := 33, descriptorIndex := 34, attributes := #[] }, { accessFlags := 10, nameIndex := 25, descriptorIndex := 26, attributes := #[] }, { accessFlags := 10, nameIndex := 11, descriptorIndex := 12, attributes := #[] }, { accessFlags := 10, nameIndex := 29, descriptorIndex := 30, attributes := #[] }, { accessFlags := 10, nameIndex := 15, descriptorIndex := 16, attributes := #[] }] 49 2 #[] #[])
  fields := #[]
  methods := #[k1m0, k1m1, k1m2, k1m3, k1m4, k1m5]
  instanceTypes := #[]
  staticTypes := #[]
  resolved := Array.replicate 40 none
  statics := none }

def pool2 : Array CpInfo := pool [(2, .class_ 4), (1, u "java/lang/Object"), (3, .class_ 10), (1, u "com/example/tallyhouse/tallyhouse/fix/MadeUpMembers"), (0, u "venue"), (0, u "Lcom/example/tallyhouse/tallyhouse/model/Venue;"), (2, u "scripts"), (0, u "Ljava/util/List;"), (82, .class_ 101), (1, u "com/example/tallyhouse/tallyhouse/fix/MadeUpMembers$Maker"), (48, u "ENTRY_TYPES"), (0, u "MOST"), (0, u "I"), (2, u "MESSAGES"), (1, u "SEED"), (0, u "J"), (0, u "HEARTBEAT"), (1, u "SPREAD"), (1, u "MOST_LOTS"), (1, u "RECENT"), (1, u "DEPTH"), (2, u "UNLISTED"), (0, u "Ljava/lang/String;"), (12, u "holds"), (0, u "([B[B)Z"), (10, .class_ 197), (0, u "com/example/tallyhouse/tallyhouse/fix/MadeUpMembers$Listed"), (0, .class_ 199), (0, u "com/example/tallyhouse/tallyhouse/fix/MadeUpMembers$Sent"), (0, .class_ 201), (0, u "com/example/tallyhouse/tallyhouse/fix/MadeUpMembers$Scripted")] 53

def k2c0 : Code := { maxStack := 3, maxLocals := 4, code := prog_72_method_6_code, exceptionTable := #[], attributes := #[] }
def k2m0 : Method := { name := "holds", desc := "([B[B)Z", sig := { parameters := [(.array .byte), (.array .byte)], returnType := some .boolean }, accessFlags := 8, code := some k2c0 }
/-- com/example/tallyhouse/tallyhouse/fix/MadeUpMembers -/
def k2 : Class := { plain "com/example/tallyhouse/tallyhouse/fix/MadeUpMembers" (some 0) with
  accessFlags := 33
  interfaces := #[]
  cf := some (fileOf pool2 8 #[.nestMembers #[196, 198, 99, 200]] #[{ accessFlags := 8, nameIndex := 184, descriptorIndex := 185, attributes := #[] }] 33 2 #[] #[{ accessFlags := 26, nameIndex := 151, descriptorIndex := 152, attributes := #[] }, { accessFlags := 26, nameIndex := 155, descriptorIndex := 152, attributes := #[] }, { accessFlags := 26, nameIndex := 157, descriptorIndex := 158, attributes := #[] }, { accessFlags := 26, nameIndex := 159, descriptorIndex := 152, attributes := #[] }, { accessFlags := 26, nameIndex := 161, descriptorIndex := 152, attributes := #[] }, { accessFlags := 26, nameIndex := 163, descriptorIndex := 152, attributes := #[] }, { accessFlags := 26, nameIndex := 165, descriptorIndex := 152, attributes := #[] }, { accessFlags := 26, nameIndex := 167, descriptorIndex := 152, attributes := #[] }, { accessFlags := 26, nameIndex := 150, descriptorIndex := 16, attributes := #[] }, { accessFlags := 26, nameIndex := 170, descriptorIndex := 171, attributes := #[] }, { accessFlags := 18, nameIndex := 11, descriptorIndex := 12, attributes := #[] }, { accessFlags := 2, nameIndex := 15, descriptorIndex := 16, attributes := #[] }])
  fields := #[{ name := "MOST", type := .int, accessFlags := 26, slot := 0, constantValue := 0 }, { name := "MESSAGES", type := .int, accessFlags := 26, slot := 1, constantValue := 0 }, { name := "SEED", type := .long, accessFlags := 26, slot := 2, constantValue := 0 }, { name := "HEARTBEAT", type := .int, accessFlags := 26, slot := 3, constantValue := 0 }, { name := "SPREAD", type := .int, accessFlags := 26, slot := 4, constantValue := 0 }, { name := "MOST_LOTS", type := .int, accessFlags := 26, slot := 5, constantValue := 0 }, { name := "RECENT", type := .int, accessFlags := 26, slot := 6, constantValue := 0 }, { name := "DEPTH", type := .int, accessFlags := 26, slot := 7, constantValue := 0 }, { name := "ENTRY_TYPES", type := (.object "java/util/List"), accessFlags := 26, slot := 8, constantValue := 0 }, { name := "UNLISTED", type := (.object "java/lang/String"), accessFlags := 26, slot := 9, constantValue := 0 }, { name := "venue", type := (.object "com/example/tallyhouse/tallyhouse/model/Venue"), accessFlags := 18, slot := 0, constantValue := 0 }, { name := "scripts", type := (.object "java/util/List"), accessFlags := 2, slot := 1, constantValue := 0 }]
  methods := #[k2m0]
  instanceTypes := #[(.object "com/example/tallyhouse/tallyhouse/model/Venue"), (.object "java/util/List")]
  staticTypes := #[.int, .int, .long, .int, .int, .int, .int, .int, (.object "java/util/List"), (.object "java/lang/String")]
  resolved := Array.replicate 255 none
  statics := none }

def pool3 : Array CpInfo := pool [(1, u "java/lang/Cloneable"), (0, .class_ 1), (0, u "java/lang/Object"), (0, .class_ 3)] 3

/-- java/lang/Cloneable -/
def k3 : Class := { plain "java/lang/Cloneable" (some 0) with
  accessFlags := 1537
  interfaces := #[]
  cf := some (fileOf pool3 2 #[] #[] 1537 4 #[] #[])
  fields := #[]
  methods := #[]
  instanceTypes := #[]
  staticTypes := #[]
  resolved := Array.replicate 8 none
  statics := none }

def pool4 : Array CpInfo := pool [(1, u "java/io/Serializable"), (0, .class_ 1), (0, u "java/lang/Object"), (0, .class_ 3)] 3

/-- java/io/Serializable -/
def k4 : Class := { plain "java/io/Serializable" (some 0) with
  accessFlags := 1537
  interfaces := #[]
  cf := some (fileOf pool4 2 #[] #[] 1537 4 #[] #[])
  fields := #[]
  methods := #[]
  instanceTypes := #[]
  staticTypes := #[]
  resolved := Array.replicate 8 none
  statics := none }

/-- the primitive byte -/
def k5 : Class := { plain "byte" none with kind := .primitive 'B', accessFlags := 0x411 }
/-- [B -/
def k6 : Class := { plain "[B" (some 0) with kind := .array 5 .byte, interfaces := #[3, 4], accessFlags := 1041 }

/-- the primitive int -/
def k7 : Class := { plain "int" none with kind := .primitive 'I', accessFlags := 0x411 }
/-- [I -/
def k8 : Class := { plain "[I" (some 0) with kind := .array 7 .int, interfaces := #[3, 4], accessFlags := 1041 }

def heap : Heap := #[]
def classes : Array Class := #[k0, k1, k2, k3, k4, k5, k6, k7, k8]
def interned : List (Array UInt16 × Addr) := []
def slotsUsed : Nat := 0
def theMethod : MethodId := ⟨1, 1⟩
def args0 : Array Value := #[.long 5, .long 3, .int 7, .int 8]
def aboutOver (below : List Frame) : State where
  vm := { classes := classes, interned := interned.toArray }
  heap := heap
  slotsUsed := slotsUsed
  threads := #[{ frames := .invoking theMethod args0 :: below }]
def below0 : List Frame := [.native { method := ⟨0, 0⟩, args := #[] }]
def about1 : State := aboutOver below0
def p0 : Program := .bare "" "" ""
def e0 : Env := launch0.env 0 0 0
theorem w_frames : about1.frames = Frame.invoking theMethod args0 :: below0 := rfl
set_option maxRecDepth 65536 in
theorem w_args : argsFit about1.vm theMethod args0 = true := by decide +kernel
set_option maxRecDepth 65536 in
theorem w_heap : heapFits about1 = true := by decide +kernel
set_option maxRecDepth 65536 in
theorem w_runnable : about1.curStatus? = some .runnable := by decide +kernel
set_option maxRecDepth 65536 in
theorem w_alone : about1.alone = true := by decide +kernel
set_option maxRecDepth 65536 in
theorem w_named : about1.methodNamed? x = some theMethod := by decide +kernel
set_option maxRecDepth 65536 in
theorem w_hears : about1.hears theMethod below0 = true := by decide +kernel
set_option maxRecDepth 65536 in
theorem w_ripe : about1.ripe theMethod args0 below0 = true := by decide +kernel
theorem w_running : about1.status = .running := rfl
set_option maxRecDepth 65536 in
theorem w_room : about1.hasRoom e0.platform room_1 = true :=
  launch0.hasRoom_least _ room_1 (by decide +kernel) (by decide +kernel) (by decide +kernel) (by decide +kernel) (by decide +kernel) (by decide +kernel)
theorem allAtoms_all (ts : List Jvm.Cond) (a : Array Jvm.Value) (st : Jvm.State) : (allAtoms ts).before a st = ts.all (fun c => c.before a st) := by
  induction ts with
  | nil => rfl
  | cons c t ih =>
    show (Jvm.Cond.and c (allAtoms t)).before a st = _
    rw [Jvm.Cond.before_and, ih, List.all_cons]
def words1 : List Jvm.Cond := Jvm.Cond.code x code maxLocals ret :: tables_1
/-- a 'code' word, met by the world's own term for the bytes: nothing is compared byte by byte -/
theorem code_word {y : MethodName} {bytes : ByteArray} {mx : Nat} {rt : Option FieldType} {a : Array Value} {s : State} {m : MethodId} {meth : Method} {c : Code} (h1 : s.methodNamed? y = some m) (h2 : s.vm.method? m = some meth) (h3 : meth.code = some c) (h4 : c.code = bytes)
    (h5 : (c.maxLocals == mx && c.exceptionTable.isEmpty && decide (c.maxStack ≤ mostOperands) && decide (meth.sig.returnType = rt) && !meth.locks && decide (parseMethodDescriptor y.desc = some meth.sig)) = true) : (Jvm.Cond.code y bytes mx rt).before a s = true := by
  simp only [Bool.and_eq_true, beq_iff_eq, Bool.not_eq_true', decide_eq_true_eq] at h5
  obtain ⟨⟨⟨⟨⟨g1, g2⟩, g3⟩, g4⟩, g5⟩, g6⟩ := h5
  simp [Cond.before, Cond.holds, Cond.value, h1, h2, h3, h4, g1, g2, g3, g4, g5, g6]
def isCode : Jvm.Cond → Bool
  | .code _ _ _ _ => true
  | _ => false
theorem all_split {L : List Jvm.Cond} {P : Jvm.Cond → Bool} (h1 : L.all (fun c => isCode c || P c) = true) (h2 : ∀ c ∈ L.filter isCode, P c = true) : L.all P = true := by
  refine List.all_eq_true.mpr fun c hc => ?_
  have h := List.all_eq_true.mp h1 c hc
  rcases Bool.eq_false_or_eq_true (isCode c) with hi | hi
  · exact h2 c (List.mem_filter.mpr ⟨hc, hi⟩)
  · simpa [hi] using h
set_option maxRecDepth 65536 in
theorem w_c0 : (Jvm.Cond.code x code maxLocals ret).before args0 about1 = true := code_word (m := ⟨1, 1⟩) (meth := k1m1) (c := k1c1) (by decide +kernel) rfl rfl rfl (by decide +kernel)
set_option maxRecDepth 65536 in
theorem w_c1 : (Jvm.Cond.code ({ cls := "com/example/tallyhouse/tallyhouse/fix/MadeUpMembersHoldsPinLaw", name := "make", desc := "(IJZB)[B" } : Jvm.MethodName) method_4_code (6 : Nat) (Option.some (Jvm.ClassFile.FieldType.array Jvm.ClassFile.FieldType.byte))).before args0 about1 = true := code_word (m := ⟨1, 3⟩) (meth := k1m3) (c := k1c3) (by decide +kernel) rfl rfl rfl (by decide +kernel)
set_option maxRecDepth 65536 in
theorem w_c2 : (Jvm.Cond.code ({ cls := "com/example/tallyhouse/tallyhouse/fix/MadeUpMembersHoldsPinLaw", name := "matchAt", desc := "([B[BI)Z" } : Jvm.MethodName) method_6_code (3 : Nat) (Option.some Jvm.ClassFile.FieldType.boolean)).before args0 about1 = true := code_word (m := ⟨1, 5⟩) (meth := k1m5) (c := k1c5) (by decide +kernel) rfl rfl rfl (by decide +kernel)
set_option maxRecDepth 65536 in
theorem w_c3 : (Jvm.Cond.code ({ cls := "com/example/tallyhouse/tallyhouse/fix/MadeUpMembersHoldsPinLaw", name := "eq", desc := "([B[BII)Z" } : Jvm.MethodName) method_5_code (4 : Nat) (Option.some Jvm.ClassFile.FieldType.boolean)).before args0 about1 = true := code_word (m := ⟨1, 4⟩) (meth := k1m4) (c := k1c4) (by decide +kernel) rfl rfl rfl (by decide +kernel)
set_option maxRecDepth 65536 in
theorem w_c4 : (Jvm.Cond.code ({ cls := "com/example/tallyhouse/tallyhouse/fix/MadeUpMembers", name := "holds", desc := "([B[B)Z" } : Jvm.MethodName) prog_72_method_6_code (4 : Nat) (Option.some Jvm.ClassFile.FieldType.boolean)).before args0 about1 = true := code_word (m := ⟨2, 0⟩) (meth := k2m0) (c := k2c0) (by decide +kernel) rfl rfl rfl (by decide +kernel)
set_option maxRecDepth 65536 in
theorem w_c5 : (Jvm.Cond.code ({ cls := "com/example/tallyhouse/tallyhouse/fix/MadeUpMembersHoldsPinLaw", name := "b", desc := "(JIZB)B" } : Jvm.MethodName) method_3_code (6 : Nat) (Option.some Jvm.ClassFile.FieldType.byte)).before args0 about1 = true := code_word (m := ⟨1, 2⟩) (meth := k1m2) (c := k1c2) (by decide +kernel) rfl rfl rfl (by decide +kernel)
def codes1 : List Jvm.Cond := [Jvm.Cond.code x code maxLocals ret, Jvm.Cond.code ({ cls := "com/example/tallyhouse/tallyhouse/fix/MadeUpMembersHoldsPinLaw", name := "make", desc := "(IJZB)[B" } : Jvm.MethodName) method_4_code (6 : Nat) (Option.some (Jvm.ClassFile.FieldType.array Jvm.ClassFile.FieldType.byte)), Jvm.Cond.code ({ cls := "com/example/tallyhouse/tallyhouse/fix/MadeUpMembersHoldsPinLaw", name := "matchAt", desc := "([B[BI)Z" } : Jvm.MethodName) method_6_code (3 : Nat) (Option.some Jvm.ClassFile.FieldType.boolean), Jvm.Cond.code ({ cls := "com/example/tallyhouse/tallyhouse/fix/MadeUpMembersHoldsPinLaw", name := "eq", desc := "([B[BII)Z" } : Jvm.MethodName) method_5_code (4 : Nat) (Option.some Jvm.ClassFile.FieldType.boolean), Jvm.Cond.code ({ cls := "com/example/tallyhouse/tallyhouse/fix/MadeUpMembers", name := "holds", desc := "([B[B)Z" } : Jvm.MethodName) prog_72_method_6_code (4 : Nat) (Option.some Jvm.ClassFile.FieldType.boolean), Jvm.Cond.code ({ cls := "com/example/tallyhouse/tallyhouse/fix/MadeUpMembersHoldsPinLaw", name := "b", desc := "(JIZB)B" } : Jvm.MethodName) method_3_code (6 : Nat) (Option.some Jvm.ClassFile.FieldType.byte)]
set_option maxRecDepth 65536 in
theorem codes_eq : words1.filter isCode = codes1 := rfl
theorem w_codes : ∀ c ∈ words1.filter isCode, c.before args0 about1 = true := by
  rw [codes_eq]
  intro c hc
  simp only [codes1, List.mem_cons, List.not_mem_nil, or_false] at hc
  rcases hc with rfl | rfl | rfl | rfl | rfl | rfl
  · exact w_c0
  · exact w_c1
  · exact w_c2
  · exact w_c3
  · exact w_c4
  · exact w_c5
set_option maxRecDepth 65536 in
theorem w_t1 : words1.all (fun c => isCode c || c.before args0 about1) = true := by decide +kernel
theorem w_tables : (allAtoms (Jvm.Cond.code x code maxLocals ret :: tables_1)).before args0 about1 = true := by
  rw [allAtoms_all]
  show words1.all (fun c => c.before args0 about1) = true
  refine all_split ?_ w_codes
  rw [w_t1]
set_option maxRecDepth 65536 in
theorem w_case : (Jvm.Cond.and given_1 narrow_1).before args0 about1 = true := by decide +kernel
theorem w_applies : (headSpec (Jvm.Cond.code x code maxLocals ret :: tables_1) room_1).applies x e0.platform about1 = true :=
  (Spec.applies_iff w_frames).mpr ⟨w_running, w_runnable, w_alone, w_named, w_hears, w_ripe, w_room, w_tables⟩
theorem atStart : AtStart classFile x code maxLocals ret World_1 tables_1 room_1 Calls_1 rest_1 Pre_1 launch0 p0 e0 about1 theMethod args0 below0 :=
  ⟨lists_1, trivial, launch0.admits_env _ _ _, launch0.least_env, fairChoices_fair.cas, fairChoices_fair.clock, w_frames, w_args, w_heap, w_applies, trivial, trivial, w_case⟩
end start1
theorem witness_1 : WitnessClaimed_1 := ⟨start1.p0, start1.e0, start1.about1, start1.theMethod, start1.args0, start1.below0, start1.atStart⟩
end Jvm.Pilot.@@N@@
