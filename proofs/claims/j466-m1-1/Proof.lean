import JvmDerived
import JvmDerived.Pilot.@@N@@Statement
import JvmDerived.Pilot.@@N@@Code
set_option linter.unusedVariables false
set_option linter.unusedSimpArgs false
namespace Jvm.RoadKit
open Sem ClassFile Op Lib Jvm.Stand Jvm.Free Jvm.LawKit
section Going
variable {p : Program} {l : Launch} {e : Env} {R : Room} {s : State} {m : MethodId} {args : Array Value} {below : List Frame} {meth : Method} {c : Code} {T T' : State} {locs : List Loc} {cells slots : Nat} {K N : Nat} {Q : Option Value → Heap → List Loc → Prop} {F : Option Value → State → Prop} {g g' : JFrame} {Z : State} {a0 : Array Value} {h : Heap}
/-- from this frame the run comes to the method's return, with what F says of the value and the end -/
def Go (p : Program) (e : Env) (below : List Frame) (F : Option Value → State → Prop) (T : State) (g : JFrame) : Prop :=
  ∃ s₂ o, Steps p.tables e below (T.setTop g) s₂ ∧ s₂.status = .running ∧ Ended s₂ below o ∧ ∃ v, o = .returned v ∧ F v s₂
/-- what is said of an end: Q of the value, the heap and the places written; and the frame -/
def GoEnd (s : State) (K N : Nat) (Q : Option Value → Heap → List Loc → Prop) (v : Option Value) (t : State) : Prop := ∃ L, Q v t.heap L ∧ FrameEnd s (.returned v) t L K N
theorem Go.of (q : ∀ t, Steps p.tables e below (T'.setTop g') t → Steps p.tables e below (T.setTop g) t) (k : Go p e below F T' g') : Go p e below F T g := by
  obtain ⟨s₂, o, h1, r⟩ := k; exact ⟨s₂, o, q _ h1, r⟩
theorem Go.via (q : Steps p.tables e below (T.setTop g) (T'.setTop g')) (k : Go p e below F T' g') : Go p e below F T g := Go.of (fun _ r => q.trans r) k
theorem Go.cast (q : g = g') (k : Go p e below F T g') : Go p e below F T g := q ▸ k
/-- a body's contract out of its walk -/
theorem goBody {y : MethodName} {bytes : ByteArray} {maxL : Nat} {ret : Option FieldType} {ws : List Cond} {rm : Room} {as' : Array Value} (hp : plainFor y = true)
    (body : ∀ p e s m below meth c s₁, p.tables.exec = Jvm.exec → Z.Warmed39 s.vm → c.code = bytes → c.maxLocals = maxL → s.vm.findClass y.cls = some m.cls → meth.name = y.name → meth.sig.returnType = ret → meth.locks = false →
      Stand p l e rm s m as' below meth c s₁ [] 0 0 → s₁.heap = h → Go p e below (GoEnd s rm.cells rm.slots Q) s₁ (entryFrame m as' maxL)) :
    MetFree l y (head1 (Cond.code y bytes maxL ret :: ws) rm) (fun a U => a = as' ∧ Z.Warmed39 U.vm ∧ U.heap = h) (fun _ _ _ _ _ => True) (fun _ U o U' => ∃ v L, o = .returned v ∧ Q v U'.heap L ∧ FrameEnd U o U' L rm.cells rm.slots) := by
  refine MetFree.of_bodySF hp hisR ?_
  intro p e s m args below meth c s₁ Bd hml hP hK
  obtain ⟨rfl, hZ, hh⟩ := hP
  obtain ⟨s₂, o, h1, h2, h3, v, rfl, L, h4, h5⟩ := body p e s m below meth c s₁ Bd.exec hZ Bd.bytes hml (findClass_of_methodNamed Bd.named) (name_of_methodNamed Bd.named Bd.method).1 Bd.returns Bd.notSynchronized (Stand.of_body Bd) (by rw [← hh, Bd.state]; rfl)
  exact ⟨s₂, _, h1, h2, h3, v, L, rfl, h4, h5⟩
theorem Go.retI (X : Stand p l e R s m args below meth c T locs cells slots) (hx : p.tables.exec = Jvm.exec) (hlk : meth.locks = false) {pc : Nat} {Ls : Array Slot} {z : Int32} {rest : List Value} (hret : meth.sig.returnType = some .int) (hd : decode c.code pc = .ok (.ireturn, 1)) (hK : cells ≤ K) (hN : slots ≤ N) (hq : Q (some (.int z)) T.heap locs) : Go p e below (GoEnd s K N Q) T (mkF m pc Ls (.int z :: rest)) := by
  obtain ⟨fs, hr, hrun, hended, hW, hsame⟩ := X.leave (v := some (.int z)) (fun h => by rw [hret] at h; cases h) hlk
  exact ⟨_, _, retOut X hx (t := .int) (i := .ireturn) hret rfl (Or.inl ⟨rfl, Or.inl rfl, z, rfl⟩) hd hr, hrun, hended, _, rfl, _, hq, ⟨_, rfl⟩, hW, hsame.mono hK hN⟩
theorem Go.retN (X : Stand p l e R s m args below meth c T locs cells slots) (hx : p.tables.exec = Jvm.exec) (hlk : meth.locks = false) {pc : Nat} {Ls : Array Slot} {z : Int32} {t : FieldType} {rest : List Value} (hret : meth.sig.returnType = some t) (ht : t = .boolean ∨ t = .byte ∨ t = .char ∨ t = .short) (hd : decode c.code pc = .ok (.ireturn, 1)) (hK : cells ≤ K) (hN : slots ≤ N) (hq : Q (some (.int (nar t z))) T.heap locs) : Go p e below (GoEnd s K N Q) T (mkF m pc Ls (.int z :: rest)) := by
  obtain ⟨fs, hr, hrun, hended, hW, hsame⟩ := X.leave (v := some (.int (nar t z))) (fun h => by rw [hret] at h; cases h) hlk
  exact ⟨_, _, Jvm.RoadKit.retN X hx (t := t) hret ht hd hr, hrun, hended, _, rfl, _, hq, ⟨_, rfl⟩, hW, hsame.mono hK hN⟩
theorem Go.retJ (X : Stand p l e R s m args below meth c T locs cells slots) (hx : p.tables.exec = Jvm.exec) (hlk : meth.locks = false) {pc : Nat} {Ls : Array Slot} {z : Int64} {rest : List Value} (hret : meth.sig.returnType = some .long) (hd : decode c.code pc = .ok (.lreturn, 1)) (hK : cells ≤ K) (hN : slots ≤ N) (hq : Q (some (.long z)) T.heap locs) : Go p e below (GoEnd s K N Q) T (mkF m pc Ls (.long z :: rest)) := by
  obtain ⟨fs, hr, hrun, hended, hW, hsame⟩ := X.leave (v := some (.long z)) (fun h => by rw [hret] at h; cases h) hlk
  exact ⟨_, _, retOut X hx (t := .long) (i := .lreturn) hret rfl (Or.inr (Or.inl ⟨rfl, rfl, z, rfl⟩)) hd hr, hrun, hended, _, rfl, _, hq, ⟨_, rfl⟩, hW, hsame.mono hK hN⟩
theorem Go.retD (X : Stand p l e R s m args below meth c T locs cells slots) (hx : p.tables.exec = Jvm.exec) (hlk : meth.locks = false) {pc : Nat} {Ls : Array Slot} {z : UInt64} {rest : List Value} (hret : meth.sig.returnType = some .double) (hd : decode c.code pc = .ok (.dreturn, 1)) (hK : cells ≤ K) (hN : slots ≤ N) (hq : Q (some (.double z)) T.heap locs) : Go p e below (GoEnd s K N Q) T (mkF m pc Ls (.double z :: rest)) := by
  obtain ⟨fs, hr, hrun, hended, hW, hsame⟩ := X.leave (v := some (.double z)) (fun h => by rw [hret] at h; cases h) hlk
  exact ⟨_, _, retOut X hx (t := .double) (i := .dreturn) hret rfl (Or.inr (Or.inr (Or.inl ⟨rfl, rfl, z, rfl⟩))) hd hr, hrun, hended, _, rfl, _, hq, ⟨_, rfl⟩, hW, hsame.mono hK hN⟩
theorem Go.retA (X : Stand p l e R s m args below meth c T locs cells slots) (hx : p.tables.exec = Jvm.exec) (hlk : meth.locks = false) {pc : Nat} {Ls : Array Slot} {v : Value} {t : FieldType} {rest : List Value} (hret : meth.sig.returnType = some t) (ht : t.isReference = true) (hv : v.isRef = true) (hn : narrow t v = v) (hd : decode c.code pc = .ok (.areturn, 1)) (hK : cells ≤ K) (hN : slots ≤ N) (hq : Q (some v) T.heap locs) : Go p e below (GoEnd s K N Q) T (mkF m pc Ls (v :: rest)) := by
  obtain ⟨fs, hr, hrun, hended, hW, hsame⟩ := X.leave (v := some v) (fun h => by rw [hret] at h; cases h) hlk
  exact ⟨_, _, retOut X hx (t := t) (i := .areturn) hret hn (Or.inr (Or.inr (Or.inr (Or.inr ⟨rfl, ht, hv⟩)))) hd hr, hrun, hended, _, rfl, _, hq, ⟨_, rfl⟩, hW, hsame.mono hK hN⟩
theorem Go.retV (X : Stand p l e R s m args below meth c T locs cells slots) (hx : p.tables.exec = Jvm.exec) (hlk : meth.locks = false) {pc : Nat} {Ls : Array Slot} (hret : meth.sig.returnType = none) (hd : decode c.code pc = .ok (.return_, 1)) (hK : cells ≤ K) (hN : slots ≤ N) (hq : Q none T.heap locs) : Go p e below (GoEnd s K N Q) T (mkF m pc Ls []) := by
  obtain ⟨fs, hr, hrun, hended, hW, hsame⟩ := X.leave (v := none) (fun _ => rfl) hlk
  exact ⟨_, _, X.returnOut hx hret hd hr, hrun, hended, _, rfl, _, hq, ⟨_, rfl⟩, hW, hsame.mono hK hN⟩
/-- what a callee that writes and makes nothing leaves -/
def PQ (h : Heap) (r : Option Value) (v : Option Value) (h' : Heap) (L : List Loc) : Prop := v = r ∧ L = [] ∧ h' = h
/-- a contract in the form in which a call takes it -/
abbrev MetAt (l : Launch) (Z : State) (y : MethodName) (bytes : ByteArray) (maxL : Nat) (ret : Option FieldType) (rm : Room) (as' : Array Value) (h : Heap) (Q : Option Value → Heap → List Loc → Prop) : Prop :=
  MetFree l y (head1 [Cond.code y bytes maxL ret] rm) (fun a U => a = as' ∧ Z.Warmed39 U.vm ∧ U.heap = h) (fun _ _ _ _ _ => True) (fun _ U o U' => ∃ v L, o = .returned v ∧ Q v U'.heap L ∧ FrameEnd U o U' L rm.cells rm.slots)
variable {own : String} {index : Nat} {y z : MethodName} {bytes : ByteArray} {maxL W pc : Nat} {ret : Option FieldType} {rm : Room} {Qc : Option Value → Heap → List Loc → Prop} {argsL rest st : List Value} {Ls : Array Slot}
theorem Go.callS (X : Stand p l e R s m args below meth c T locs cells slots) (hx : p.tables.exec = Jvm.exec) (hZ : Z.Warmed39 s.vm) (hown : s.vm.findClass own = some m.cls)
    (wl : (Cond.methodLink own index y).before a0 Z = true) (ws : (Cond.static y).before a0 Z = true) (wz : (Cond.initialized y.cls).before a0 Z = true) (wc : (Cond.code y bytes maxL ret).before a0 Z = true)
    (hy : y.cls ≠ "java/lang/invoke/MethodHandle" ∧ y.cls ≠ "java/lang/invoke/VarHandle") (hM : MetAt l Z y bytes maxL ret rm argsL.toArray h Qc) (eT : T.heap = h) (hsize : Ls.size = c.maxLocals)
    (hlen : ∀ sig, parseMethodDescriptor y.desc = some sig → argsL.length = sig.parameters.length) (hd : decode c.code pc = .ok (.invokestatic index, 3)) (hst : st = argsL.reverse ++ rest)
    (hW : (rest.map fun v => v.category).sum ≤ W) (hf : rm.frames + 1 ≤ R.frames) (hl : W + (maxL + 11) + rm.locals ≤ R.locals) (hc : cells + rm.cells ≤ R.cells) (hs : slots + rm.slots ≤ R.slots)
    (k : ∀ v T' L', Stand p l e R s m args below meth c T' (locs ++ L') (cells + rm.cells) (slots + rm.slots) → Qc v T'.heap L' → Go p e below F T' (mkF m (pc + 3) Ls (v.toList ++ rest))) : Go p e below F T (mkF m pc Ls st) := by
  obtain ⟨v, vm₁, ⟨T', L', k', n'⟩, -, X', ⟨Lc, hQ, l1, y1, z1⟩, stp⟩ := Jvm.LawKit.callS X hx hown (mvT hZ wl) (mvT hZ ws) (mvT hZ wz) (mvT hZ wc) hy (backOf (W := W) hM hZ wc wz hf hl) (g := mkF m pc Ls st) rfl hsize hlen hst (by show 2 * 0 + _ ≤ _; omega) hd (fun _ _ => ⟨rfl, eT, hc, hs⟩)
  dsimp only [Pt.U, Pt.locs, Pt.cells, Pt.slots] at X' l1 y1 z1 stp hQ
  subst l1 y1 z1
  exact Go.of stp (k v T' Lc X' hQ)
theorem Go.callSP (X : Stand p l e R s m args below meth c T locs cells slots) (hx : p.tables.exec = Jvm.exec) (hZ : Z.Warmed39 s.vm) (hown : s.vm.findClass own = some m.cls)
    (wl : (Cond.methodLink own index y).before a0 Z = true) (ws : (Cond.static y).before a0 Z = true) (wz : (Cond.initialized y.cls).before a0 Z = true) (wc : (Cond.code y bytes maxL ret).before a0 Z = true)
    (hy : y.cls ≠ "java/lang/invoke/MethodHandle" ∧ y.cls ≠ "java/lang/invoke/VarHandle") {r : Option Value} {fr lo : Nat} (hM : MetAt l Z y bytes maxL ret { frames := fr, cells := 0, slots := 0, locals := lo } argsL.toArray h (PQ h r)) (eT : T.heap = h) (hsize : Ls.size = c.maxLocals)
    (hlen : ∀ sig, parseMethodDescriptor y.desc = some sig → argsL.length = sig.parameters.length) (hd : decode c.code pc = .ok (.invokestatic index, 3)) (hst : st = argsL.reverse ++ rest)
    (hW : (rest.map fun v => v.category).sum ≤ W) (hf : fr + 1 ≤ R.frames) (hl : W + (maxL + 11) + lo ≤ R.locals) (hc : cells ≤ R.cells) (hs : slots ≤ R.slots)
    (k : ∀ T', Stand p l e R s m args below meth c T' locs cells slots → T'.heap = h → Go p e below F T' (mkF m (pc + 3) Ls (r.toList ++ rest))) : Go p e below F T (mkF m pc Ls st) := by
  refine Go.callS X hx hZ hown wl ws wz wc hy hM eT hsize hlen hd hst hW hf hl hc hs fun v T' L' X' q => ?_
  obtain ⟨rfl, rfl, e'⟩ := q
  rw [List.append_nil] at X'
  exact k T' X' e'
theorem Go.callI (X : Stand p l e R s m args below meth c T locs cells slots) (hx : p.tables.exec = Jvm.exec) (hZ : Z.Warmed39 s.vm) (hy1 : y.name = "<init>") (hown : s.vm.findClass own = some m.cls)
    (wl : (Cond.methodLink own index y).before a0 Z = true) (wi : (Cond.instanceMethod y).before a0 Z = true) (wz : (Cond.initialized y.cls).before a0 Z = true) (wc : (Cond.code y bytes maxL none).before a0 Z = true)
    (hy : y.cls ≠ "java/lang/invoke/MethodHandle" ∧ y.cls ≠ "java/lang/invoke/VarHandle") {a : Addr} (hM : MetAt l Z y bytes maxL none rm (.ref a :: argsL).toArray h Qc) (eT : T.heap = h) (hsize : Ls.size = c.maxLocals)
    (hlen : ∀ sig, parseMethodDescriptor y.desc = some sig → argsL.length = sig.parameters.length) (hd : decode c.code pc = .ok (.invokespecial index, 3)) (hst : st = argsL.reverse ++ .ref a :: rest)
    (hW : (rest.map fun v => v.category).sum ≤ W) (hf : rm.frames + 1 ≤ R.frames) (hl : W + (maxL + 11) + rm.locals ≤ R.locals) (hc : cells + rm.cells ≤ R.cells) (hs : slots + rm.slots ≤ R.slots)
    (k : ∀ v T' L', Stand p l e R s m args below meth c T' (locs ++ L') (cells + rm.cells) (slots + rm.slots) → Qc v T'.heap L' → Go p e below F T' (mkF m (pc + 3) Ls (v.toList ++ rest))) : Go p e below F T (mkF m pc Ls st) := by
  obtain ⟨v, vm₁, ⟨T', L', k', n'⟩, -, X', ⟨Lc, hQ, l1, y1, z1⟩, stp⟩ := X.specialBack hx hy1 hown (mvT hZ wl) (mvT hZ wi) (mvT hZ wc) hy (backOf (W := W) hM hZ wc wz hf hl) (g := mkF m pc Ls st) rfl hsize (Steps.refl _) (a := a) hlen hst (by show 2 * 0 + _ ≤ _; omega) hd (fun _ _ => ⟨rfl, eT, hc, hs⟩)
  dsimp only [Pt.U, Pt.locs, Pt.cells, Pt.slots] at X' l1 y1 z1 stp hQ
  subst l1 y1 z1
  exact Go.via stp (k v T' Lc X' hQ)
theorem Go.callV (X : Stand p l e R s m args below meth c T locs cells slots) (hx : p.tables.exec = Jvm.exec) (hZ : Z.Warmed39 s.vm) (hown : s.vm.findClass own = some m.cls) {C : String}
    (wl : (Cond.methodLink own index y).before a0 Z = true) (wd : (Cond.declares y).before a0 Z = true) (hnf : NotFace s y) (wse : (Cond.selects C y z).before a0 Z = true) (wi : (Cond.instanceMethod z).before a0 Z = true) (wz : (Cond.initialized z.cls).before a0 Z = true) (wc : (Cond.code z bytes maxL ret).before a0 Z = true)
    (hy : y.cls ≠ "java/lang/invoke/MethodHandle" ∧ y.cls ≠ "java/lang/invoke/VarHandle") {a : Addr} (hM : MetAt l Z z bytes maxL ret rm (.ref a :: argsL).toArray h Qc) (eT : T.heap = h) (hE : Exa Z h a C) (hsize : Ls.size = c.maxLocals)
    (hlen : ∀ sig, parseMethodDescriptor y.desc = some sig → argsL.length = sig.parameters.length) (hd : decode c.code pc = .ok (.invokevirtual index, 3)) (hst : st = argsL.reverse ++ .ref a :: rest)
    (hW : (rest.map fun v => v.category).sum ≤ W) (hf : rm.frames + 1 ≤ R.frames) (hl : W + (maxL + 11) + rm.locals ≤ R.locals) (hc : cells + rm.cells ≤ R.cells) (hs : slots + rm.slots ≤ R.slots)
    (k : ∀ v T' L', Stand p l e R s m args below meth c T' (locs ++ L') (cells + rm.cells) (slots + rm.slots) → Qc v T'.heap L' → Go p e below F T' (mkF m (pc + 3) Ls (v.toList ++ rest))) : Go p e below F T (mkF m pc Ls st) := by
  obtain ⟨cq, kq, q1, q2, q3⟩ := isOf hZ eT hE
  obtain ⟨v, vm₁, ⟨T', L', k', n'⟩, -, X', ⟨Lc, hQ, l1, y1, z1⟩, stp⟩ := X.virtualBack hx (y := y) (z := z) hown (mvT hZ wl) (mvT hZ wd) hnf (mvT hZ wse) (mvT hZ wi) hy (backOf (W := W) hM hZ wc wz hf hl) q1 q3 (g := mkF m pc Ls st) rfl hsize (Steps.refl _) hlen hst (by show 2 * 0 + _ ≤ _; omega) hd (fun _ _ => ⟨rfl, eT, hc, hs⟩)
  dsimp only [Pt.U, Pt.locs, Pt.cells, Pt.slots] at X' l1 y1 z1 stp hQ
  subst l1 y1 z1
  exact Go.via stp (k v T' Lc X' hQ)
theorem Go.callVP (X : Stand p l e R s m args below meth c T locs cells slots) (hx : p.tables.exec = Jvm.exec) (hZ : Z.Warmed39 s.vm) (hown : s.vm.findClass own = some m.cls) {C : String}
    (wl : (Cond.methodLink own index y).before a0 Z = true) (wd : (Cond.declares y).before a0 Z = true) (hnf : NotFace s y) (wse : (Cond.selects C y z).before a0 Z = true) (wi : (Cond.instanceMethod z).before a0 Z = true) (wz : (Cond.initialized z.cls).before a0 Z = true) (wc : (Cond.code z bytes maxL ret).before a0 Z = true)
    (hy : y.cls ≠ "java/lang/invoke/MethodHandle" ∧ y.cls ≠ "java/lang/invoke/VarHandle") {a : Addr} {r : Option Value} {fr lo : Nat} (hM : MetAt l Z z bytes maxL ret { frames := fr, cells := 0, slots := 0, locals := lo } (.ref a :: argsL).toArray h (PQ h r)) (eT : T.heap = h) (hE : Exa Z h a C) (hsize : Ls.size = c.maxLocals)
    (hlen : ∀ sig, parseMethodDescriptor y.desc = some sig → argsL.length = sig.parameters.length) (hd : decode c.code pc = .ok (.invokevirtual index, 3)) (hst : st = argsL.reverse ++ .ref a :: rest)
    (hW : (rest.map fun v => v.category).sum ≤ W) (hf : fr + 1 ≤ R.frames) (hl : W + (maxL + 11) + lo ≤ R.locals) (hc : cells ≤ R.cells) (hs : slots ≤ R.slots)
    (k : ∀ T', Stand p l e R s m args below meth c T' locs cells slots → T'.heap = h → Go p e below F T' (mkF m (pc + 3) Ls (r.toList ++ rest))) : Go p e below F T (mkF m pc Ls st) := by
  refine Go.callV X hx hZ hown wl wd hnf wse wi wz wc hy hM eT hE hsize hlen hd hst hW hf hl hc hs fun v T' L' X' q => ?_
  obtain ⟨rfl, rfl, e'⟩ := q
  rw [List.append_nil] at X'
  exact k T' X' e'
theorem Go.callIP (X : Stand p l e R s m args below meth c T locs cells slots) (hx : p.tables.exec = Jvm.exec) (hZ : Z.Warmed39 s.vm) (hy1 : y.name = "<init>") (hown : s.vm.findClass own = some m.cls)
    (wl : (Cond.methodLink own index y).before a0 Z = true) (wi : (Cond.instanceMethod y).before a0 Z = true) (wz : (Cond.initialized y.cls).before a0 Z = true) (wc : (Cond.code y bytes maxL none).before a0 Z = true)
    (hy : y.cls ≠ "java/lang/invoke/MethodHandle" ∧ y.cls ≠ "java/lang/invoke/VarHandle") {a : Addr} {fr lo : Nat} (hM : MetAt l Z y bytes maxL none { frames := fr, cells := 0, slots := 0, locals := lo } (.ref a :: argsL).toArray h (PQ h none)) (eT : T.heap = h) (hsize : Ls.size = c.maxLocals)
    (hlen : ∀ sig, parseMethodDescriptor y.desc = some sig → argsL.length = sig.parameters.length) (hd : decode c.code pc = .ok (.invokespecial index, 3)) (hst : st = argsL.reverse ++ .ref a :: rest)
    (hW : (rest.map fun v => v.category).sum ≤ W) (hf : fr + 1 ≤ R.frames) (hl : W + (maxL + 11) + lo ≤ R.locals) (hc : cells ≤ R.cells) (hs : slots ≤ R.slots)
    (k : ∀ T', Stand p l e R s m args below meth c T' locs cells slots → T'.heap = h → Go p e below F T' (mkF m (pc + 3) Ls rest)) : Go p e below F T (mkF m pc Ls st) := by
  refine Go.callI X hx hZ hy1 hown wl wi wz wc hy hM eT hsize hlen hd hst hW hf hl hc hs fun v T' L' X' q => ?_
  obtain ⟨rfl, rfl, e'⟩ := q
  rw [List.append_nil] at X'
  exact k T' X' e'
end Going
end Jvm.RoadKit
namespace Jvm.Pilot.@@N@@
open Jvm Jvm.ClassFile Sem Op Lib Jvm.Free Jvm.Stand Jvm.LawKit Jvm.RoadKit Bundle Jvm.Pilot.@@N@@.Jvm.D
def own_isV (x : Int32) : Int32 := if x = 97 then 1 else if x = 101 then 1 else if x = 105 then 1 else if x = 111 then 1 else if x = 117 then 1 else if x = 121 then 1 else 0
def own_ex (x : Int32) : Int32 := if x < 97 then 0 else if 122 < x then 0 else if ((((17842449 : Int32).toUInt32 >>> ((x - (97 : Int32)) &&& 31).toUInt32).toInt32) &&& (1 : Int32)) = 0 then 0 else 1
theorem own_tab : ∀ n : Fin 26, own_isV (Int32.ofNat (97 + n.val)) = own_ex (Int32.ofNat (97 + n.val)) := by decide +kernel
theorem own_ne {x y : Int32} (h : x.toInt ≠ y.toInt) : ¬ x = y := fun q => h (by rw [q])
theorem own_law (x : Int32) : own_isV x = own_ex x := by
  by_cases h1 : x < 97
  · have h1' := Int32.lt_iff_toInt_lt.mp h1
    rw [show (97 : Int32).toInt = 97 from rfl] at h1'
    have q1 : own_ex x = 0 := by simp only [own_ex, h1, if_true]
    have n1 : ¬ x = 97 := own_ne (by rw [show (97 : Int32).toInt = 97 from rfl]; omega)
    have n2 : ¬ x = 101 := own_ne (by rw [show (101 : Int32).toInt = 101 from rfl]; omega)
    have n3 : ¬ x = 105 := own_ne (by rw [show (105 : Int32).toInt = 105 from rfl]; omega)
    have n4 : ¬ x = 111 := own_ne (by rw [show (111 : Int32).toInt = 111 from rfl]; omega)
    have n5 : ¬ x = 117 := own_ne (by rw [show (117 : Int32).toInt = 117 from rfl]; omega)
    have n6 : ¬ x = 121 := own_ne (by rw [show (121 : Int32).toInt = 121 from rfl]; omega)
    rw [q1]; simp only [own_isV, n1, n2, n3, n4, n5, n6, if_false]
  · by_cases h2 : 122 < x
    · have h2' := Int32.lt_iff_toInt_lt.mp h2
      rw [show (122 : Int32).toInt = 122 from rfl] at h2'
      have q1 : own_ex x = 0 := by simp only [own_ex, h1, h2, if_true, if_false]
      have n1 : ¬ x = 97 := own_ne (by rw [show (97 : Int32).toInt = 97 from rfl]; omega)
      have n2 : ¬ x = 101 := own_ne (by rw [show (101 : Int32).toInt = 101 from rfl]; omega)
      have n3 : ¬ x = 105 := own_ne (by rw [show (105 : Int32).toInt = 105 from rfl]; omega)
      have n4 : ¬ x = 111 := own_ne (by rw [show (111 : Int32).toInt = 111 from rfl]; omega)
      have n5 : ¬ x = 117 := own_ne (by rw [show (117 : Int32).toInt = 117 from rfl]; omega)
      have n6 : ¬ x = 121 := own_ne (by rw [show (121 : Int32).toInt = 121 from rfl]; omega)
      rw [q1]; simp only [own_isV, n1, n2, n3, n4, n5, n6, if_false]
    · have h1' := mt Int32.lt_iff_toInt_lt.mpr h1
      have h2' := mt Int32.lt_iff_toInt_lt.mpr h2
      rw [show (97 : Int32).toInt = 97 from rfl] at h1'
      rw [show (122 : Int32).toInt = 122 from rfl] at h2'
      have hx : x = Int32.ofNat (97 + (x.toInt - 97).toNat) := by
        apply Int32.toInt_inj.mp
        rw [Int32.toInt_ofNat_of_lt (by omega)]
        omega
      rw [hx]
      exact own_tab ⟨(x.toInt - 97).toNat, by omega⟩
theorem own_dsc0 : parseMethodDescriptor "(I)Z" = some ⟨[.int], some .boolean⟩ := by decide +kernel
theorem own_vd0 : decode prog_35_method_6_code 0 = .ok (.iload_n 0, 1) := by decide +kernel
theorem own_vd1 : decode prog_35_method_6_code 1 = .ok (.bipush 97, 2) := by decide +kernel
theorem own_vd3 : decode prog_35_method_6_code 3 = .ok (.if_icmp .eq 33, 3) := by decide +kernel
theorem own_vd6 : decode prog_35_method_6_code 6 = .ok (.iload_n 0, 1) := by decide +kernel
theorem own_vd7 : decode prog_35_method_6_code 7 = .ok (.bipush 101, 2) := by decide +kernel
theorem own_vd9 : decode prog_35_method_6_code 9 = .ok (.if_icmp .eq 27, 3) := by decide +kernel
theorem own_vd12 : decode prog_35_method_6_code 12 = .ok (.iload_n 0, 1) := by decide +kernel
theorem own_vd13 : decode prog_35_method_6_code 13 = .ok (.bipush 105, 2) := by decide +kernel
theorem own_vd15 : decode prog_35_method_6_code 15 = .ok (.if_icmp .eq 21, 3) := by decide +kernel
theorem own_vd18 : decode prog_35_method_6_code 18 = .ok (.iload_n 0, 1) := by decide +kernel
theorem own_vd19 : decode prog_35_method_6_code 19 = .ok (.bipush 111, 2) := by decide +kernel
theorem own_vd21 : decode prog_35_method_6_code 21 = .ok (.if_icmp .eq 15, 3) := by decide +kernel
theorem own_vd24 : decode prog_35_method_6_code 24 = .ok (.iload_n 0, 1) := by decide +kernel
theorem own_vd25 : decode prog_35_method_6_code 25 = .ok (.bipush 117, 2) := by decide +kernel
theorem own_vd27 : decode prog_35_method_6_code 27 = .ok (.if_icmp .eq 9, 3) := by decide +kernel
theorem own_vd30 : decode prog_35_method_6_code 30 = .ok (.iload_n 0, 1) := by decide +kernel
theorem own_vd31 : decode prog_35_method_6_code 31 = .ok (.bipush 121, 2) := by decide +kernel
theorem own_vd33 : decode prog_35_method_6_code 33 = .ok (.if_icmp .ne 7, 3) := by decide +kernel
theorem own_vd36 : decode prog_35_method_6_code 36 = .ok (.iconst 1, 1) := by decide +kernel
theorem own_vd37 : decode prog_35_method_6_code 37 = .ok (.goto 4, 3) := by decide +kernel
theorem own_vd40 : decode prog_35_method_6_code 40 = .ok (.iconst 0, 1) := by decide +kernel
theorem own_vd41 : decode prog_35_method_6_code 41 = .ok (.ireturn, 1) := by decide +kernel
set_option maxRecDepth 65536 in
set_option maxHeartbeats 40000000 in
theorem own_rmV (l : Launch) (Z : State) (a0 : Array Value) (hw : ∀ d ∈ tables_1, d.before a0 Z = true) (x : Int32) (h0 : Heap)  :
    MetFree l (⟨"com/example/keen_guess/keenguess/edit/SoundKey", "isVowel", "(I)Z"⟩ : MethodName) (head1 [Jvm.Cond.code (⟨"com/example/keen_guess/keenguess/edit/SoundKey", "isVowel", "(I)Z"⟩ : MethodName) prog_35_method_6_code 1 (some .boolean)] ({ frames := 0, cells := 0, slots := 0, locals := 0 } : Room)) (fun a U => a = #[(.int x)] ∧ Z.Warmed39 U.vm ∧ U.heap = h0) (fun _ _ _ _ _ => True) (fun _ U o U' => ∃ v L, o = .returned v ∧ (PQ h0 (some (.int (own_isV x)))) v U'.heap L ∧ FrameEnd U o U' L ({ frames := 0, cells := 0, slots := 0, locals := 0 } : Room).cells ({ frames := 0, cells := 0, slots := 0, locals := 0 } : Room).slots) := by
  refine goBody (y := (⟨"com/example/keen_guess/keenguess/edit/SoundKey", "isVowel", "(I)Z"⟩ : MethodName)) (Q := PQ h0 (some (.int (own_isV x)))) (plainFor_of_name (by first | (simp [plainName, overriddenIn]; done) | decide +kernel)) ?_
  intro p e s m below meth c T0 hx hZ hby hml hown hnm hret hlk X0 e0
  have hown : s.vm.findClass "com/example/keen_guess/keenguess/edit/SoundKey" = some m.cls := hown
  refine Go.cast (g' := mkF m 0 #[.val (.int x)] []) (by first | (simp [entryFrame, mkF, argsToLocals, Value.category]; done) | rfl) ?_
  show Go p e below _ T0 (mkF m 0 #[.val (.int x)] [])
  refine Go.of (fun _ k => XS.iloadN X0.here hx rfl (hb hby own_vd0) rfl k) ?_
  show Go p e below _ T0 (mkF m 1 #[.val (.int x)] [(.int x)])
  refine Go.of (fun _ k => XS.bipush X0.here hx rfl (hb hby own_vd1) k) ?_
  show Go p e below _ T0 (mkF m 3 #[.val (.int x)] [(.int (97 : Int32)), (.int x)])
  by_cases hc3 : x = (97 : Int32)
  ·
    refine Go.of (fun _ k => XS.icmpYes X0.here hx rfl (pc0 := 3) (pc' := 36) rfl (hb hby own_vd3) rfl (teq hc3).1 (by decide) (by decide) k) ?_
    show Go p e below _ T0 (mkF m 36 #[.val (.int x)] [])
    refine Go.of (fun _ k => XS.iconst X0.here hx rfl (hb hby own_vd36) k) ?_
    show Go p e below _ T0 (mkF m 37 #[.val (.int x)] [(.int (1 : Int32))])
    refine Go.of (fun _ k => XS.goto X0.here hx rfl (pc0 := 37) (pc' := 41) rfl (hb hby own_vd37) (by decide) (by decide) k) ?_
    show Go p e below _ T0 (mkF m 41 #[.val (.int x)] [(.int (1 : Int32))])
    exact Go.retN X0 hx hlk (t := .boolean) hret (by simp) (hb hby own_vd41) (by decide) (by decide) ⟨by simp only [own_isV, hc3, if_true, if_false]; rfl, rfl, e0⟩
  ·
    refine Go.of (fun _ k => XS.icmpNo X0.here hx rfl (hb hby own_vd3) rfl (feq hc3).1 k) ?_
    show Go p e below _ T0 (mkF m 6 #[.val (.int x)] [])
    refine Go.of (fun _ k => XS.iloadN X0.here hx rfl (hb hby own_vd6) rfl k) ?_
    show Go p e below _ T0 (mkF m 7 #[.val (.int x)] [(.int x)])
    refine Go.of (fun _ k => XS.bipush X0.here hx rfl (hb hby own_vd7) k) ?_
    show Go p e below _ T0 (mkF m 9 #[.val (.int x)] [(.int (101 : Int32)), (.int x)])
    by_cases hc9 : x = (101 : Int32)
    ·
      refine Go.of (fun _ k => XS.icmpYes X0.here hx rfl (pc0 := 9) (pc' := 36) rfl (hb hby own_vd9) rfl (teq hc9).1 (by decide) (by decide) k) ?_
      show Go p e below _ T0 (mkF m 36 #[.val (.int x)] [])
      refine Go.of (fun _ k => XS.iconst X0.here hx rfl (hb hby own_vd36) k) ?_
      show Go p e below _ T0 (mkF m 37 #[.val (.int x)] [(.int (1 : Int32))])
      refine Go.of (fun _ k => XS.goto X0.here hx rfl (pc0 := 37) (pc' := 41) rfl (hb hby own_vd37) (by decide) (by decide) k) ?_
      show Go p e below _ T0 (mkF m 41 #[.val (.int x)] [(.int (1 : Int32))])
      exact Go.retN X0 hx hlk (t := .boolean) hret (by simp) (hb hby own_vd41) (by decide) (by decide) ⟨by simp only [own_isV, hc3, hc9, if_true, if_false]; rfl, rfl, e0⟩
    ·
      refine Go.of (fun _ k => XS.icmpNo X0.here hx rfl (hb hby own_vd9) rfl (feq hc9).1 k) ?_
      show Go p e below _ T0 (mkF m 12 #[.val (.int x)] [])
      refine Go.of (fun _ k => XS.iloadN X0.here hx rfl (hb hby own_vd12) rfl k) ?_
      show Go p e below _ T0 (mkF m 13 #[.val (.int x)] [(.int x)])
      refine Go.of (fun _ k => XS.bipush X0.here hx rfl (hb hby own_vd13) k) ?_
      show Go p e below _ T0 (mkF m 15 #[.val (.int x)] [(.int (105 : Int32)), (.int x)])
      by_cases hc15 : x = (105 : Int32)
      ·
        refine Go.of (fun _ k => XS.icmpYes X0.here hx rfl (pc0 := 15) (pc' := 36) rfl (hb hby own_vd15) rfl (teq hc15).1 (by decide) (by decide) k) ?_
        show Go p e below _ T0 (mkF m 36 #[.val (.int x)] [])
        refine Go.of (fun _ k => XS.iconst X0.here hx rfl (hb hby own_vd36) k) ?_
        show Go p e below _ T0 (mkF m 37 #[.val (.int x)] [(.int (1 : Int32))])
        refine Go.of (fun _ k => XS.goto X0.here hx rfl (pc0 := 37) (pc' := 41) rfl (hb hby own_vd37) (by decide) (by decide) k) ?_
        show Go p e below _ T0 (mkF m 41 #[.val (.int x)] [(.int (1 : Int32))])
        exact Go.retN X0 hx hlk (t := .boolean) hret (by simp) (hb hby own_vd41) (by decide) (by decide) ⟨by simp only [own_isV, hc3, hc9, hc15, if_true, if_false]; rfl, rfl, e0⟩
      ·
        refine Go.of (fun _ k => XS.icmpNo X0.here hx rfl (hb hby own_vd15) rfl (feq hc15).1 k) ?_
        show Go p e below _ T0 (mkF m 18 #[.val (.int x)] [])
        refine Go.of (fun _ k => XS.iloadN X0.here hx rfl (hb hby own_vd18) rfl k) ?_
        show Go p e below _ T0 (mkF m 19 #[.val (.int x)] [(.int x)])
        refine Go.of (fun _ k => XS.bipush X0.here hx rfl (hb hby own_vd19) k) ?_
        show Go p e below _ T0 (mkF m 21 #[.val (.int x)] [(.int (111 : Int32)), (.int x)])
        by_cases hc21 : x = (111 : Int32)
        ·
          refine Go.of (fun _ k => XS.icmpYes X0.here hx rfl (pc0 := 21) (pc' := 36) rfl (hb hby own_vd21) rfl (teq hc21).1 (by decide) (by decide) k) ?_
          show Go p e below _ T0 (mkF m 36 #[.val (.int x)] [])
          refine Go.of (fun _ k => XS.iconst X0.here hx rfl (hb hby own_vd36) k) ?_
          show Go p e below _ T0 (mkF m 37 #[.val (.int x)] [(.int (1 : Int32))])
          refine Go.of (fun _ k => XS.goto X0.here hx rfl (pc0 := 37) (pc' := 41) rfl (hb hby own_vd37) (by decide) (by decide) k) ?_
          show Go p e below _ T0 (mkF m 41 #[.val (.int x)] [(.int (1 : Int32))])
          exact Go.retN X0 hx hlk (t := .boolean) hret (by simp) (hb hby own_vd41) (by decide) (by decide) ⟨by simp only [own_isV, hc3, hc9, hc15, hc21, if_true, if_false]; rfl, rfl, e0⟩
        ·
          refine Go.of (fun _ k => XS.icmpNo X0.here hx rfl (hb hby own_vd21) rfl (feq hc21).1 k) ?_
          show Go p e below _ T0 (mkF m 24 #[.val (.int x)] [])
          refine Go.of (fun _ k => XS.iloadN X0.here hx rfl (hb hby own_vd24) rfl k) ?_
          show Go p e below _ T0 (mkF m 25 #[.val (.int x)] [(.int x)])
          refine Go.of (fun _ k => XS.bipush X0.here hx rfl (hb hby own_vd25) k) ?_
          show Go p e below _ T0 (mkF m 27 #[.val (.int x)] [(.int (117 : Int32)), (.int x)])
          by_cases hc27 : x = (117 : Int32)
          ·
            refine Go.of (fun _ k => XS.icmpYes X0.here hx rfl (pc0 := 27) (pc' := 36) rfl (hb hby own_vd27) rfl (teq hc27).1 (by decide) (by decide) k) ?_
            show Go p e below _ T0 (mkF m 36 #[.val (.int x)] [])
            refine Go.of (fun _ k => XS.iconst X0.here hx rfl (hb hby own_vd36) k) ?_
            show Go p e below _ T0 (mkF m 37 #[.val (.int x)] [(.int (1 : Int32))])
            refine Go.of (fun _ k => XS.goto X0.here hx rfl (pc0 := 37) (pc' := 41) rfl (hb hby own_vd37) (by decide) (by decide) k) ?_
            show Go p e below _ T0 (mkF m 41 #[.val (.int x)] [(.int (1 : Int32))])
            exact Go.retN X0 hx hlk (t := .boolean) hret (by simp) (hb hby own_vd41) (by decide) (by decide) ⟨by simp only [own_isV, hc3, hc9, hc15, hc21, hc27, if_true, if_false]; rfl, rfl, e0⟩
          ·
            refine Go.of (fun _ k => XS.icmpNo X0.here hx rfl (hb hby own_vd27) rfl (feq hc27).1 k) ?_
            show Go p e below _ T0 (mkF m 30 #[.val (.int x)] [])
            refine Go.of (fun _ k => XS.iloadN X0.here hx rfl (hb hby own_vd30) rfl k) ?_
            show Go p e below _ T0 (mkF m 31 #[.val (.int x)] [(.int x)])
            refine Go.of (fun _ k => XS.bipush X0.here hx rfl (hb hby own_vd31) k) ?_
            show Go p e below _ T0 (mkF m 33 #[.val (.int x)] [(.int (121 : Int32)), (.int x)])
            by_cases hc33 : x = (121 : Int32)
            ·
              refine Go.of (fun _ k => XS.icmpNo X0.here hx rfl (hb hby own_vd33) rfl (teq hc33).2 k) ?_
              show Go p e below _ T0 (mkF m 36 #[.val (.int x)] [])
              refine Go.of (fun _ k => XS.iconst X0.here hx rfl (hb hby own_vd36) k) ?_
              show Go p e below _ T0 (mkF m 37 #[.val (.int x)] [(.int (1 : Int32))])
              refine Go.of (fun _ k => XS.goto X0.here hx rfl (pc0 := 37) (pc' := 41) rfl (hb hby own_vd37) (by decide) (by decide) k) ?_
              show Go p e below _ T0 (mkF m 41 #[.val (.int x)] [(.int (1 : Int32))])
              exact Go.retN X0 hx hlk (t := .boolean) hret (by simp) (hb hby own_vd41) (by decide) (by decide) ⟨by simp only [own_isV, hc3, hc9, hc15, hc21, hc27, hc33, if_true, if_false]; rfl, rfl, e0⟩
            ·
              refine Go.of (fun _ k => XS.icmpYes X0.here hx rfl (pc0 := 33) (pc' := 40) rfl (hb hby own_vd33) rfl (feq hc33).2 (by decide) (by decide) k) ?_
              show Go p e below _ T0 (mkF m 40 #[.val (.int x)] [])
              refine Go.of (fun _ k => XS.iconst X0.here hx rfl (hb hby own_vd40) k) ?_
              show Go p e below _ T0 (mkF m 41 #[.val (.int x)] [(.int (0 : Int32))])
              exact Go.retN X0 hx hlk (t := .boolean) hret (by simp) (hb hby own_vd41) (by decide) (by decide) ⟨by simp only [own_isV, hc3, hc9, hc15, hc21, hc27, hc33, if_true, if_false]; rfl, rfl, e0⟩
theorem own_ed0 : decode method_3_code 0 = .ok (.iload_n 0, 1) := by decide +kernel
theorem own_ed1 : decode method_3_code 1 = .ok (.bipush 97, 2) := by decide +kernel
theorem own_ed3 : decode method_3_code 3 = .ok (.if_icmp .lt 9, 3) := by decide +kernel
theorem own_ed6 : decode method_3_code 6 = .ok (.iload_n 0, 1) := by decide +kernel
theorem own_ed7 : decode method_3_code 7 = .ok (.bipush 122, 2) := by decide +kernel
theorem own_ed9 : decode method_3_code 9 = .ok (.if_icmp .le 5, 3) := by decide +kernel
theorem own_ed12 : decode method_3_code 12 = .ok (.iconst 0, 1) := by decide +kernel
theorem own_ed13 : decode method_3_code 13 = .ok (.ireturn, 1) := by decide +kernel
theorem own_ed14 : decode method_3_code 14 = .ok (.ldc 18, 2) := by decide +kernel
theorem own_ed16 : decode method_3_code 16 = .ok (.istore_n 1, 1) := by decide +kernel
theorem own_ed17 : decode method_3_code 17 = .ok (.iload_n 1, 1) := by decide +kernel
theorem own_ed18 : decode method_3_code 18 = .ok (.iload_n 0, 1) := by decide +kernel
theorem own_ed19 : decode method_3_code 19 = .ok (.bipush 97, 2) := by decide +kernel
theorem own_ed21 : decode method_3_code 21 = .ok (.isub, 1) := by decide +kernel
theorem own_ed22 : decode method_3_code 22 = .ok (.iushr, 1) := by decide +kernel
theorem own_ed23 : decode method_3_code 23 = .ok (.iconst 1, 1) := by decide +kernel
theorem own_ed24 : decode method_3_code 24 = .ok (.iand, 1) := by decide +kernel
theorem own_ed25 : decode method_3_code 25 = .ok (.ifCond .eq 7, 3) := by decide +kernel
theorem own_ed28 : decode method_3_code 28 = .ok (.iconst 1, 1) := by decide +kernel
theorem own_ed29 : decode method_3_code 29 = .ok (.goto 4, 3) := by decide +kernel
theorem own_ed32 : decode method_3_code 32 = .ok (.iconst 0, 1) := by decide +kernel
theorem own_ed33 : decode method_3_code 33 = .ok (.ireturn, 1) := by decide +kernel
set_option maxRecDepth 65536 in
set_option maxHeartbeats 40000000 in
theorem own_rmE (l : Launch) (Z : State) (a0 : Array Value) (hw : ∀ d ∈ tables_1, d.before a0 Z = true) (x : Int32) (h0 : Heap)  :
    MetFree l (⟨"com/example/keen_guess/keenguess/edit/SoundKeyIsVowelPinLaw", "expected", "(I)Z"⟩ : MethodName) (head1 [Jvm.Cond.code (⟨"com/example/keen_guess/keenguess/edit/SoundKeyIsVowelPinLaw", "expected", "(I)Z"⟩ : MethodName) method_3_code 2 (some .boolean)] ({ frames := 0, cells := 0, slots := 0, locals := 0 } : Room)) (fun a U => a = #[(.int x)] ∧ Z.Warmed39 U.vm ∧ U.heap = h0) (fun _ _ _ _ _ => True) (fun _ U o U' => ∃ v L, o = .returned v ∧ (PQ h0 (some (.int (own_ex x)))) v U'.heap L ∧ FrameEnd U o U' L ({ frames := 0, cells := 0, slots := 0, locals := 0 } : Room).cells ({ frames := 0, cells := 0, slots := 0, locals := 0 } : Room).slots) := by
  refine goBody (y := (⟨"com/example/keen_guess/keenguess/edit/SoundKeyIsVowelPinLaw", "expected", "(I)Z"⟩ : MethodName)) (Q := PQ h0 (some (.int (own_ex x)))) (plainFor_of_name (by first | (simp [plainName, overriddenIn]; done) | decide +kernel)) ?_
  intro p e s m below meth c T0 hx hZ hby hml hown hnm hret hlk X0 e0
  have hown : s.vm.findClass "com/example/keen_guess/keenguess/edit/SoundKeyIsVowelPinLaw" = some m.cls := hown
  refine Go.cast (g' := mkF m 0 #[.val (.int x), .unset] []) (by first | (simp [entryFrame, mkF, argsToLocals, Value.category]; done) | rfl) ?_
  show Go p e below _ T0 (mkF m 0 #[.val (.int x), .unset] [])
  refine Go.of (fun _ k => XS.iloadN X0.here hx rfl (hb hby own_ed0) rfl k) ?_
  show Go p e below _ T0 (mkF m 1 #[.val (.int x), .unset] [(.int x)])
  refine Go.of (fun _ k => XS.bipush X0.here hx rfl (hb hby own_ed1) k) ?_
  show Go p e below _ T0 (mkF m 3 #[.val (.int x), .unset] [(.int (97 : Int32)), (.int x)])
  by_cases hc3 : x < (97 : Int32)
  ·
    refine Go.of (fun _ k => XS.icmpYes X0.here hx rfl (pc0 := 3) (pc' := 12) rfl (hb hby own_ed3) rfl (tlt hc3).1 (by decide) (by decide) k) ?_
    show Go p e below _ T0 (mkF m 12 #[.val (.int x), .unset] [])
    refine Go.of (fun _ k => XS.iconst X0.here hx rfl (hb hby own_ed12) k) ?_
    show Go p e below _ T0 (mkF m 13 #[.val (.int x), .unset] [(.int (0 : Int32))])
    exact Go.retN X0 hx hlk (t := .boolean) hret (by simp) (hb hby own_ed13) (by decide) (by decide) ⟨by simp only [own_ex, hc3, if_true, if_false]; rfl, rfl, e0⟩
  ·
    refine Go.of (fun _ k => XS.icmpNo X0.here hx rfl (hb hby own_ed3) rfl (flt hc3).1 k) ?_
    show Go p e below _ T0 (mkF m 6 #[.val (.int x), .unset] [])
    refine Go.of (fun _ k => XS.iloadN X0.here hx rfl (hb hby own_ed6) rfl k) ?_
    show Go p e below _ T0 (mkF m 7 #[.val (.int x), .unset] [(.int x)])
    refine Go.of (fun _ k => XS.bipush X0.here hx rfl (hb hby own_ed7) k) ?_
    show Go p e below _ T0 (mkF m 9 #[.val (.int x), .unset] [(.int (122 : Int32)), (.int x)])
    by_cases hc9 : (122 : Int32) < x
    ·
      refine Go.of (fun _ k => XS.icmpNo X0.here hx rfl (hb hby own_ed9) rfl (tlt hc9).2.2.2 k) ?_
      show Go p e below _ T0 (mkF m 12 #[.val (.int x), .unset] [])
      refine Go.of (fun _ k => XS.iconst X0.here hx rfl (hb hby own_ed12) k) ?_
      show Go p e below _ T0 (mkF m 13 #[.val (.int x), .unset] [(.int (0 : Int32))])
      exact Go.retN X0 hx hlk (t := .boolean) hret (by simp) (hb hby own_ed13) (by decide) (by decide) ⟨by simp only [own_ex, hc3, hc9, if_true, if_false]; rfl, rfl, e0⟩
    ·
      refine Go.of (fun _ k => XS.icmpYes X0.here hx rfl (pc0 := 9) (pc' := 14) rfl (hb hby own_ed9) rfl (flt hc9).2.2.2 (by decide) (by decide) k) ?_
      show Go p e below _ T0 (mkF m 14 #[.val (.int x), .unset] [])
      refine Go.of (X0.ldcInt hx hown (mvT hZ (hw _ (List.mem_of_getElem? (i := 8) rfl))) (g := (mkF m 14 #[.val (.int x), .unset] [])) rfl (hb hby own_ed14)) ?_
      show Go p e below _ T0 (mkF m 16 #[.val (.int x), .unset] [(.int (17842449 : Int32))])
      refine Go.of (fun _ k => XS.istoreN X0.here hx rfl (hb hby own_ed16) rfl (l' := #[.val (.int x), .val (.int (17842449 : Int32))]) rfl k) ?_
      show Go p e below _ T0 (mkF m 17 #[.val (.int x), .val (.int (17842449 : Int32))] [])
      refine Go.of (fun _ k => XS.iloadN X0.here hx rfl (hb hby own_ed17) rfl k) ?_
      show Go p e below _ T0 (mkF m 18 #[.val (.int x), .val (.int (17842449 : Int32))] [(.int (17842449 : Int32))])
      refine Go.of (fun _ k => XS.iloadN X0.here hx rfl (hb hby own_ed18) rfl k) ?_
      show Go p e below _ T0 (mkF m 19 #[.val (.int x), .val (.int (17842449 : Int32))] [(.int x), (.int (17842449 : Int32))])
      refine Go.of (fun _ k => XS.bipush X0.here hx rfl (hb hby own_ed19) k) ?_
      show Go p e below _ T0 (mkF m 21 #[.val (.int x), .val (.int (17842449 : Int32))] [(.int (97 : Int32)), (.int x), (.int (17842449 : Int32))])
      refine Go.of (fun _ k => XS.isub X0.here hx rfl (hb hby own_ed21) rfl k) ?_
      show Go p e below _ T0 (mkF m 22 #[.val (.int x), .val (.int (17842449 : Int32))] [(.int (x - (97 : Int32))), (.int (17842449 : Int32))])
      refine Go.of (fun _ k => XS.iushr X0.here hx rfl (hb hby own_ed22) rfl k) ?_
      show Go p e below _ T0 (mkF m 23 #[.val (.int x), .val (.int (17842449 : Int32))] [(.int ((((17842449 : Int32) : Int32).toUInt32 >>> ((x - (97 : Int32)) &&& 31).toUInt32).toInt32))])
      refine Go.of (fun _ k => XS.iconst X0.here hx rfl (hb hby own_ed23) k) ?_
      show Go p e below _ T0 (mkF m 24 #[.val (.int x), .val (.int (17842449 : Int32))] [(.int (1 : Int32)), (.int ((((17842449 : Int32) : Int32).toUInt32 >>> ((x - (97 : Int32)) &&& 31).toUInt32).toInt32))])
      refine Go.of (fun _ k => XS.iand X0.here hx rfl (hb hby own_ed24) rfl k) ?_
      show Go p e below _ T0 (mkF m 25 #[.val (.int x), .val (.int (17842449 : Int32))] [(.int (((((17842449 : Int32) : Int32).toUInt32 >>> ((x - (97 : Int32)) &&& 31).toUInt32).toInt32) &&& (1 : Int32)))])
      by_cases hc25 : (((((17842449 : Int32) : Int32).toUInt32 >>> ((x - (97 : Int32)) &&& 31).toUInt32).toInt32) &&& (1 : Int32)) = (0 : Int32)
      ·
        refine Go.of (fun _ k => XS.ifYes X0.here hx rfl (pc0 := 25) (pc' := 32) rfl (hb hby own_ed25) rfl ((if0 _ _).trans (teq hc25).1) (by decide) (by decide) k) ?_
        show Go p e below _ T0 (mkF m 32 #[.val (.int x), .val (.int (17842449 : Int32))] [])
        refine Go.of (fun _ k => XS.iconst X0.here hx rfl (hb hby own_ed32) k) ?_
        show Go p e below _ T0 (mkF m 33 #[.val (.int x), .val (.int (17842449 : Int32))] [(.int (0 : Int32))])
        exact Go.retN X0 hx hlk (t := .boolean) hret (by simp) (hb hby own_ed33) (by decide) (by decide) ⟨by simp only [own_ex, hc3, hc9, hc25, if_true, if_false]; rfl, rfl, e0⟩
      ·
        refine Go.of (fun _ k => XS.ifNo X0.here hx rfl (hb hby own_ed25) rfl ((if0 _ _).trans (feq hc25).1) k) ?_
        show Go p e below _ T0 (mkF m 28 #[.val (.int x), .val (.int (17842449 : Int32))] [])
        refine Go.of (fun _ k => XS.iconst X0.here hx rfl (hb hby own_ed28) k) ?_
        show Go p e below _ T0 (mkF m 29 #[.val (.int x), .val (.int (17842449 : Int32))] [(.int (1 : Int32))])
        refine Go.of (fun _ k => XS.goto X0.here hx rfl (pc0 := 29) (pc' := 33) rfl (hb hby own_ed29) (by decide) (by decide) k) ?_
        show Go p e below _ T0 (mkF m 33 #[.val (.int x), .val (.int (17842449 : Int32))] [(.int (1 : Int32))])
        exact Go.retN X0 hx hlk (t := .boolean) hret (by simp) (hb hby own_ed33) (by decide) (by decide) ⟨by simp only [own_ex, hc3, hc9, hc25, if_true, if_false]; rfl, rfl, e0⟩
set_option maxRecDepth 65536 in
set_option maxHeartbeats 40000000 in
theorem rm0 (l : Launch) (Z : State) (a0 : Array Value) (hw : ∀ d ∈ tables_1, d.before a0 Z = true) (ws : List Jvm.Cond) (x0 x1 : Int32) (h0 : Heap)  :
    MetFree l x (head1 (Jvm.Cond.code x code maxLocals ret :: ws) room_1) (fun a U => a = #[(.int x0), (.int x1)] ∧ Z.Warmed39 U.vm ∧ U.heap = h0) (fun _ _ _ _ _ => True) (fun _ U o U' => ∃ v L, o = .returned v ∧ (fun v _ L => v = some (.int 1) ∧ Fr h0.size L) v U'.heap L ∧ FrameEnd U o U' L room_1.cells room_1.slots) := by
  refine goBody (y := x) (Q := fun v _ L => v = some (.int 1) ∧ Fr h0.size L) (plainFor_of_name (by first | (simp [plainName, overriddenIn]; done) | decide +kernel)) ?_
  intro p e s m below meth c T0 hx hZ hby hml hown hnm hret hlk X0 e0
  have hown : s.vm.findClass "com/example/keen_guess/keenguess/edit/SoundKeyIsVowelPinLaw" = some m.cls := hown
  have hml : c.maxLocals = 4 := hml
  refine Go.cast (g' := mkF m 0 #[.val (.int x0), .val (.int x1), .unset, .unset] []) (by first | (simp [entryFrame, mkF, argsToLocals, Value.category, maxLocals]; done) | rfl) ?_
  show Go p e below _ T0 (mkF m 0 #[.val (.int x0), .val (.int x1), .unset, .unset] [])
  refine Go.of (fun _ k => XS.iloadN X0.here hx rfl (hb hby at_0) rfl k) ?_
  show Go p e below _ T0 (mkF m 1 #[.val (.int x0), .val (.int x1), .unset, .unset] [(.int x1)])
  refine Go.of (fun _ k => XS.iconst X0.here hx rfl (hb hby at_1) k) ?_
  show Go p e below _ T0 (mkF m 2 #[.val (.int x0), .val (.int x1), .unset, .unset] [(.int (1 : Int32)), (.int x1)])
  refine Go.of (fun _ k => XS.iand X0.here hx rfl (hb hby at_2) rfl k) ?_
  show Go p e below _ T0 (mkF m 3 #[.val (.int x0), .val (.int x1), .unset, .unset] [(.int (x1 &&& (1 : Int32)))])
  by_cases hc3 : (x1 &&& (1 : Int32)) = (0 : Int32)
  ·
    refine Go.of (fun _ k => XS.ifYes X0.here hx rfl (pc0 := 3) (pc' := 10) rfl (hb hby at_3) rfl ((if0 _ _).trans (teq hc3).1) (by decide) (by decide) k) ?_
    show Go p e below _ T0 (mkF m 10 #[.val (.int x0), .val (.int x1), .unset, .unset] [])
    refine Go.of (fun _ k => XS.bipush X0.here hx rfl (hb hby at_10) k) ?_
    show Go p e below _ T0 (mkF m 12 #[.val (.int x0), .val (.int x1), .unset, .unset] [(.int (96 : Int32))])
    refine Go.of (fun _ k => XS.iloadN X0.here hx rfl (hb hby at_12) rfl k) ?_
    show Go p e below _ T0 (mkF m 13 #[.val (.int x0), .val (.int x1), .unset, .unset] [(.int x0), (.int (96 : Int32))])
    refine Go.of (fun _ k => XS.bipush X0.here hx rfl (hb hby at_13) k) ?_
    show Go p e below _ T0 (mkF m 15 #[.val (.int x0), .val (.int x1), .unset, .unset] [(.int (31 : Int32)), (.int x0), (.int (96 : Int32))])
    refine Go.of (fun _ k => XS.iand X0.here hx rfl (hb hby at_15) rfl k) ?_
    show Go p e below _ T0 (mkF m 16 #[.val (.int x0), .val (.int x1), .unset, .unset] [(.int (x0 &&& (31 : Int32))), (.int (96 : Int32))])
    refine Go.of (fun _ k => XS.iadd X0.here hx rfl (hb hby at_16) rfl k) ?_
    show Go p e below _ T0 (mkF m 17 #[.val (.int x0), .val (.int x1), .unset, .unset] [(.int ((96 : Int32) + (x0 &&& (31 : Int32))))])
    refine Go.of (fun _ k => XS.istoreN X0.here hx rfl (hb hby at_17) rfl (l' := #[.val (.int x0), .val (.int x1), .val (.int ((96 : Int32) + (x0 &&& (31 : Int32)))), .unset]) rfl k) ?_
    show Go p e below _ T0 (mkF m 18 #[.val (.int x0), .val (.int x1), .val (.int ((96 : Int32) + (x0 &&& (31 : Int32)))), .unset] [])
    refine Go.of (fun _ k => XS.iloadN X0.here hx rfl (hb hby at_18) rfl k) ?_
    show Go p e below _ T0 (mkF m 19 #[.val (.int x0), .val (.int x1), .val (.int ((96 : Int32) + (x0 &&& (31 : Int32)))), .unset] [(.int ((96 : Int32) + (x0 &&& (31 : Int32))))])
    refine Go.callSP (W := 0) (y := (⟨"com/example/keen_guess/keenguess/edit/SoundKey", "isVowel", "(I)Z"⟩ : MethodName)) (argsL := [(.int ((96 : Int32) + (x0 &&& (31 : Int32))))]) (rest := []) (r := some (.int (own_isV ((96 : Int32) + (x0 &&& (31 : Int32)))))) X0 hx hZ hown (hw _ (List.mem_of_getElem? (i := 0) rfl)) (hw _ (List.mem_of_getElem? (i := 1) rfl)) (hw _ (List.mem_of_getElem? (i := 2) rfl)) (hw _ (List.mem_of_getElem? (i := 3) rfl)) (by decide) (own_rmV l Z a0 hw ((96 : Int32) + (x0 &&& (31 : Int32))) h0) e0 (by rw [hml]; rfl) (lenOf own_dsc0 rfl) (hb hby at_19) rfl (Nat.le_of_eq rfl) (by decide) (by decide) (by decide) (by decide) fun T1 X1 e1 => ?_
    show Go p e below _ T1 (mkF m 22 #[.val (.int x0), .val (.int x1), .val (.int ((96 : Int32) + (x0 &&& (31 : Int32)))), .unset] [(.int (own_isV ((96 : Int32) + (x0 &&& (31 : Int32)))))])
    refine Go.of (fun _ k => XS.istoreN X1.here hx rfl (hb hby at_22) rfl (l' := #[.val (.int x0), .val (.int x1), .val (.int ((96 : Int32) + (x0 &&& (31 : Int32)))), .val (.int (own_isV ((96 : Int32) + (x0 &&& (31 : Int32)))))]) rfl k) ?_
    show Go p e below _ T1 (mkF m 23 #[.val (.int x0), .val (.int x1), .val (.int ((96 : Int32) + (x0 &&& (31 : Int32)))), .val (.int (own_isV ((96 : Int32) + (x0 &&& (31 : Int32)))))] [])
    refine Go.of (fun _ k => XS.iloadN X1.here hx rfl (hb hby at_23) rfl k) ?_
    show Go p e below _ T1 (mkF m 24 #[.val (.int x0), .val (.int x1), .val (.int ((96 : Int32) + (x0 &&& (31 : Int32)))), .val (.int (own_isV ((96 : Int32) + (x0 &&& (31 : Int32)))))] [(.int (own_isV ((96 : Int32) + (x0 &&& (31 : Int32)))))])
    refine Go.of (fun _ k => XS.iloadN X1.here hx rfl (hb hby at_24) rfl k) ?_
    show Go p e below _ T1 (mkF m 25 #[.val (.int x0), .val (.int x1), .val (.int ((96 : Int32) + (x0 &&& (31 : Int32)))), .val (.int (own_isV ((96 : Int32) + (x0 &&& (31 : Int32)))))] [(.int ((96 : Int32) + (x0 &&& (31 : Int32)))), (.int (own_isV ((96 : Int32) + (x0 &&& (31 : Int32)))))])
    refine Go.callSP (W := 1) (y := (⟨"com/example/keen_guess/keenguess/edit/SoundKeyIsVowelPinLaw", "expected", "(I)Z"⟩ : MethodName)) (argsL := [(.int ((96 : Int32) + (x0 &&& (31 : Int32))))]) (rest := [(.int (own_isV ((96 : Int32) + (x0 &&& (31 : Int32)))))]) (r := some (.int (own_ex ((96 : Int32) + (x0 &&& (31 : Int32)))))) X1 hx hZ hown (hw _ (List.mem_of_getElem? (i := 4) rfl)) (hw _ (List.mem_of_getElem? (i := 5) rfl)) (hw _ (List.mem_of_getElem? (i := 6) rfl)) (hw _ (List.mem_of_getElem? (i := 7) rfl)) (by decide) (own_rmE l Z a0 hw ((96 : Int32) + (x0 &&& (31 : Int32))) h0) e1 (by rw [hml]; rfl) (lenOf own_dsc0 rfl) (hb hby at_25) rfl (Nat.le_of_eq rfl) (by decide) (by decide) (by decide) (by decide) fun T2 X2 e2 => ?_
    show Go p e below _ T2 (mkF m 28 #[.val (.int x0), .val (.int x1), .val (.int ((96 : Int32) + (x0 &&& (31 : Int32)))), .val (.int (own_isV ((96 : Int32) + (x0 &&& (31 : Int32)))))] [(.int (own_ex ((96 : Int32) + (x0 &&& (31 : Int32))))), (.int (own_isV ((96 : Int32) + (x0 &&& (31 : Int32)))))])
    refine Go.of (fun _ k => XS.icmpNo X2.here hx rfl (hb hby at_28) rfl (teq (own_law _ : (own_isV ((96 : Int32) + (x0 &&& (31 : Int32)))) = (own_ex ((96 : Int32) + (x0 &&& (31 : Int32)))))).2 k) ?_
    show Go p e below _ T2 (mkF m 31 #[.val (.int x0), .val (.int x1), .val (.int ((96 : Int32) + (x0 &&& (31 : Int32)))), .val (.int (own_isV ((96 : Int32) + (x0 &&& (31 : Int32)))))] [])
    refine Go.of (fun _ k => XS.iconst X2.here hx rfl (hb hby at_31) k) ?_
    show Go p e below _ T2 (mkF m 32 #[.val (.int x0), .val (.int x1), .val (.int ((96 : Int32) + (x0 &&& (31 : Int32)))), .val (.int (own_isV ((96 : Int32) + (x0 &&& (31 : Int32)))))] [(.int (1 : Int32))])
    refine Go.of (fun _ k => XS.goto X2.here hx rfl (pc0 := 32) (pc' := 36) rfl (hb hby at_32) (by decide) (by decide) k) ?_
    show Go p e below _ T2 (mkF m 36 #[.val (.int x0), .val (.int x1), .val (.int ((96 : Int32) + (x0 &&& (31 : Int32)))), .val (.int (own_isV ((96 : Int32) + (x0 &&& (31 : Int32)))))] [(.int (1 : Int32))])
    exact Go.retN X2 hx hlk (t := .boolean) hret (by simp) (hb hby at_36) (by decide) (by decide) ⟨rfl, Fr.nil _⟩
  ·
    refine Go.of (fun _ k => XS.ifNo X0.here hx rfl (hb hby at_3) rfl ((if0 _ _).trans (feq hc3).1) k) ?_
    show Go p e below _ T0 (mkF m 6 #[.val (.int x0), .val (.int x1), .unset, .unset] [])
    refine Go.of (fun _ k => XS.iloadN X0.here hx rfl (hb hby at_6) rfl k) ?_
    show Go p e below _ T0 (mkF m 7 #[.val (.int x0), .val (.int x1), .unset, .unset] [(.int x0)])
    refine Go.of (fun _ k => XS.goto X0.here hx rfl (pc0 := 7) (pc' := 17) rfl (hb hby at_7) (by decide) (by decide) k) ?_
    show Go p e below _ T0 (mkF m 17 #[.val (.int x0), .val (.int x1), .unset, .unset] [(.int x0)])
    refine Go.of (fun _ k => XS.istoreN X0.here hx rfl (hb hby at_17) rfl (l' := #[.val (.int x0), .val (.int x1), .val (.int x0), .unset]) rfl k) ?_
    show Go p e below _ T0 (mkF m 18 #[.val (.int x0), .val (.int x1), .val (.int x0), .unset] [])
    refine Go.of (fun _ k => XS.iloadN X0.here hx rfl (hb hby at_18) rfl k) ?_
    show Go p e below _ T0 (mkF m 19 #[.val (.int x0), .val (.int x1), .val (.int x0), .unset] [(.int x0)])
    refine Go.callSP (W := 0) (y := (⟨"com/example/keen_guess/keenguess/edit/SoundKey", "isVowel", "(I)Z"⟩ : MethodName)) (argsL := [(.int x0)]) (rest := []) (r := some (.int (own_isV x0))) X0 hx hZ hown (hw _ (List.mem_of_getElem? (i := 0) rfl)) (hw _ (List.mem_of_getElem? (i := 1) rfl)) (hw _ (List.mem_of_getElem? (i := 2) rfl)) (hw _ (List.mem_of_getElem? (i := 3) rfl)) (by decide) (own_rmV l Z a0 hw x0 h0) e0 (by rw [hml]; rfl) (lenOf own_dsc0 rfl) (hb hby at_19) rfl (Nat.le_of_eq rfl) (by decide) (by decide) (by decide) (by decide) fun T3 X3 e3 => ?_
    show Go p e below _ T3 (mkF m 22 #[.val (.int x0), .val (.int x1), .val (.int x0), .unset] [(.int (own_isV x0))])
    refine Go.of (fun _ k => XS.istoreN X3.here hx rfl (hb hby at_22) rfl (l' := #[.val (.int x0), .val (.int x1), .val (.int x0), .val (.int (own_isV x0))]) rfl k) ?_
    show Go p e below _ T3 (mkF m 23 #[.val (.int x0), .val (.int x1), .val (.int x0), .val (.int (own_isV x0))] [])
    refine Go.of (fun _ k => XS.iloadN X3.here hx rfl (hb hby at_23) rfl k) ?_
    show Go p e below _ T3 (mkF m 24 #[.val (.int x0), .val (.int x1), .val (.int x0), .val (.int (own_isV x0))] [(.int (own_isV x0))])
    refine Go.of (fun _ k => XS.iloadN X3.here hx rfl (hb hby at_24) rfl k) ?_
    show Go p e below _ T3 (mkF m 25 #[.val (.int x0), .val (.int x1), .val (.int x0), .val (.int (own_isV x0))] [(.int x0), (.int (own_isV x0))])
    refine Go.callSP (W := 1) (y := (⟨"com/example/keen_guess/keenguess/edit/SoundKeyIsVowelPinLaw", "expected", "(I)Z"⟩ : MethodName)) (argsL := [(.int x0)]) (rest := [(.int (own_isV x0))]) (r := some (.int (own_ex x0))) X3 hx hZ hown (hw _ (List.mem_of_getElem? (i := 4) rfl)) (hw _ (List.mem_of_getElem? (i := 5) rfl)) (hw _ (List.mem_of_getElem? (i := 6) rfl)) (hw _ (List.mem_of_getElem? (i := 7) rfl)) (by decide) (own_rmE l Z a0 hw x0 h0) e3 (by rw [hml]; rfl) (lenOf own_dsc0 rfl) (hb hby at_25) rfl (Nat.le_of_eq rfl) (by decide) (by decide) (by decide) (by decide) fun T4 X4 e4 => ?_
    show Go p e below _ T4 (mkF m 28 #[.val (.int x0), .val (.int x1), .val (.int x0), .val (.int (own_isV x0))] [(.int (own_ex x0)), (.int (own_isV x0))])
    refine Go.of (fun _ k => XS.icmpNo X4.here hx rfl (hb hby at_28) rfl (teq (own_law _ : (own_isV x0) = (own_ex x0))).2 k) ?_
    show Go p e below _ T4 (mkF m 31 #[.val (.int x0), .val (.int x1), .val (.int x0), .val (.int (own_isV x0))] [])
    refine Go.of (fun _ k => XS.iconst X4.here hx rfl (hb hby at_31) k) ?_
    show Go p e below _ T4 (mkF m 32 #[.val (.int x0), .val (.int x1), .val (.int x0), .val (.int (own_isV x0))] [(.int (1 : Int32))])
    refine Go.of (fun _ k => XS.goto X4.here hx rfl (pc0 := 32) (pc' := 36) rfl (hb hby at_32) (by decide) (by decide) k) ?_
    show Go p e below _ T4 (mkF m 36 #[.val (.int x0), .val (.int x1), .val (.int x0), .val (.int (own_isV x0))] [(.int (1 : Int32))])
    exact Go.retN X4 hx hlk (t := .boolean) hret (by simp) (hb hby at_36) (by decide) (by decide) ⟨rfl, Fr.nil _⟩
set_option maxRecDepth 65536 in
set_option maxHeartbeats 40000000 in
theorem comes_1 {Post : Tables → Env → Array Value → State → Outcome → State → Prop} (hpost : ∀ tb e args s v u, (limb_1_1.after args s (.returned v) u = true ∧ limb_1_2.after args s (.returned v) u = true ∧ True) → FrameEnd s (.returned v) u (Jvm.fieldLocs frame_1_writes args s ++ Jvm.arrayLocs frame_1_arrays args s ++ Jvm.staticLocs frame_1_statics s) 0 0 → Post tb e args s (.returned v) u) :
    ArmFor flags0 classFile x code maxLocals ret World_1 tables_1 room_1 Calls_1 rest_1 Pre_1 Post := by
  intro l hfl _ _ p e ha hc hk s m args below hf hA hF happ hP
  obtain ⟨hcalls, hrest, hpre⟩ := hP
  obtain ⟨-, -, -, hnamed, -, -, -, hat⟩ := (Spec.applies_iff hf).mp happ
  obtain ⟨hg, hn⟩ := and_e (Cond.before_iff.mp (show (Jvm.Cond.and given_1 narrow_1).before args s = true from hpre))
  obtain ⟨g0, gg0⟩ := and_e hg
  obtain ⟨ga0, gg1⟩ := and_e gg0
  have ga1 := gg1
  obtain ⟨w0, w1, rfl⟩ : ∃ w0 w1 : Value, args = #[w0, w1] := by
    have hs : args.size = 2 := by simpa [Cond.value, given_1] using g0
    obtain ⟨L⟩ := args
    match L, hs with
    | [w0, w1], _ => exact ⟨w0, w1, rfl⟩
  have hw := fun d (hd : d ∈ tables_1) => atoms_spec (ws := Jvm.Cond.code x code maxLocals ret :: tables_1) hat d (List.mem_cons_of_mem _ hd)
  have hfit : Fit s := fun {y c} hc i hi => by
    obtain ⟨ha, rfl⟩ := Array.getElem?_eq_some_iff.mp hc
    have q := List.all_eq_true.mp ((Array.all_eq_true_iff_forall_mem.mp hF) _ (Array.getElem_mem ha)) i (List.mem_range.mpr hi)
    simpa [Array.getElem?_eq_getElem hi] using q
  obtain ⟨i0, ei0⟩ := is_v ga0
  obtain rfl : w0 = (.int i0) := Option.some.inj ei0
  obtain ⟨i1, ei1⟩ := is_v ga1
  obtain rfl : w1 = (.int i1) := Option.some.inj ei1
  obtain ⟨n, o, h1, h2, h3, _, L, rfl, ⟨rfl, N⟩, hq⟩ := rm0 l s _ hw tables_1 i0 i1 s.heap p e ha hc hk s m _ below hf ((Spec.applies_iff_loose hf).mp happ).1 ⟨rfl, State.Warmed39.refl s, rfl⟩ trivial
  refine ⟨n, _, h1, h2, h3, hpost _ _ _ _ _ _ ⟨Cond.after_iff.mpr rfl, Cond.after_iff.mpr (eq_i res_at (Term.int_eval (1)) rfl), trivial⟩ ⟨hq.1, hq.2.1, (hq.2.2.sift fun y hy => Or.inr (N y hy)).mono (by decide) (by decide)⟩⟩
theorem main_1_1 : Claimed_1_1 := comes_1 fun _ _ _ _ _ _ h hF => ⟨h.1, hF⟩
theorem main_1_2 : Claimed_1_2 := comes_1 fun _ _ _ _ _ _ h hF => ⟨h.2.1, hF⟩
end Jvm.Pilot.@@N@@
namespace Jvm.Pilot.@@N@@
open Jvm Jvm.ClassFile Sem Op Lib Jvm.Free Jvm.Stand Jvm.Pilot.@@N@@.Jvm.D
/-! MADE BY PROGRAM (witnessworld.py) out of the Statement's table words and the real class files: 9 classes; the members and pool entries that the words name. The judged class is class 1, her method 1. -/
namespace start1
open Jvm.ClassFile
def u (s : String) : CpInfo := .utf8 (stringToUtf16 s)
/-- a pool by its gaps: so many unusable entries, then the entry; so many at the end -/
def gap : Nat → List CpInfo → List CpInfo
  | 0, r => r
  | n + 1, r => .unusable :: gap n r
def poolList (es : List (Nat × CpInfo)) (last : Nat) : List CpInfo := es.foldr (fun e r => gap e.1 (e.2 :: r)) (gap last [])
def pool (es : List (Nat × CpInfo)) (last : Nat) : Array CpInfo := ⟨poolList es last⟩
def fileOf (pool : Array CpInfo) (this : Nat) (attrs : Array Attribute := #[]) (ms : Array MethodInfo := #[]) (fl : Nat := 33) (sup : Nat := 0) (ifs : Array Nat := #[]) (fds : Array FieldInfo := #[]) : ClassFile where
  minorVersion := 0
  majorVersion := 65
  constantPool := pool
  accessFlags := fl
  thisClass := this
  superClass := sup
  interfaces := ifs
  fields := fds
  methods := ms
  attributes := attrs
def plain (name : String) (sup : Option ClassId) : Class where
  name := name
  kind := .ordinary
  loader := none
  accessFlags := 33
  super := sup
  interfaces := #[]
  cf := none
  fields := #[]
  methods := #[]
  instanceTypes := #[]
  staticTypes := #[]
  resolved := #[]
  callSites := []
  init := .initialized
  statics := none
  mirror := none

def pool0 : Array CpInfo := pool [(5, u "<init>"), (0, u "()V"), (1, .class_ 10), (1, u "java/lang/Object")] 113

def k0m0 : Method := { name := "<init>", desc := "()V", sig := { parameters := [], returnType := none }, accessFlags := 1, code := none }
/-- java/lang/Object -/
def k0 : Class := { plain "java/lang/Object" none with
  accessFlags := 33
  interfaces := #[]
  cf := some (fileOf pool0 8 #[] #[{ accessFlags := 1, nameIndex := 5, descriptorIndex := 6, attributes := #[] }] 33 0 #[] #[])
  fields := #[]
  methods := #[k0m0]
  instanceTypes := #[]
  staticTypes := #[]
  resolved := Array.replicate 124 none
  statics := none }

def pool1 : Array CpInfo := pool [(2, .class_ 4), (1, u "java/lang/Object"), (0, u "<init>"), (0, u "()V"), (0, .methodref 8 9), (0, .class_ 10), (0, .nameAndType 11 12), (0, u "com/example/keen_guess/keenguess/edit/SoundKey"), (0, u "isVowel"), (0, u "(I)Z"), (0, .methodref 14 15), (0, .class_ 16), (0, .nameAndType 17 12), (0, u "com/example/keen_guess/keenguess/edit/SoundKeyIsVowelPinLaw"), (0, u "expected"), (0, .integer 17842449), (2, u "law"), (0, u "(II)Z")] 3

def k1m0 : Method := { name := "<init>", desc := "()V", sig := { parameters := [], returnType := none }, accessFlags := 2, code := none }
def k1c1 : Code := { maxStack := 3, maxLocals := 4, code := code, exceptionTable := #[], attributes := #[] }
def k1m1 : Method := { name := "law", desc := "(II)Z", sig := { parameters := [.int, .int], returnType := some .boolean }, accessFlags := 9, code := some k1c1 }
def k1c2 : Code := { maxStack := 3, maxLocals := 2, code := method_3_code, exceptionTable := #[], attributes := #[] }
def k1m2 : Method := { name := "expected", desc := "(I)Z", sig := { parameters := [.int], returnType := some .boolean }, accessFlags := 10, code := some k1c2 }
/-- com/example/keen_guess/keenguess/edit/SoundKeyIsVowelPinLaw -/
def k1 : Class := { plain "com/example/keen_guess/keenguess/edit/SoundKeyIsVowelPinLaw" (some 0) with
  accessFlags := 49
  interfaces := #[]
  cf := some (fileOf pool1 14 #[] #[{ accessFlags := 2, nameIndex := 5, descriptorIndex := 6, attributes := #[] }, { accessFlags := 9, nameIndex := 21, descriptorIndex := 22, attributes := #[] }, { accessFlags := 10, nameIndex := 17, descriptorIndex := 12, attributes := #[] }] 49 2 #[] #[])
  fields := #[]
  methods := #[k1m0, k1m1, k1m2]
  instanceTypes := #[]
  staticTypes := #[]
  resolved := Array.replicate 26 none
  statics := none }

def pool2 : Array CpInfo := pool [(2, .class_ 4), (1, u "java/lang/Object"), (0, u "<init>"), (0, u "()V"), (4, .class_ 13), (1, u "com/example/keen_guess/keenguess/edit/SoundKey"), (4, u "isVowel"), (0, u "(I)Z"), (36, u "ITSELF"), (0, u "[Ljava/lang/String;")] 47

def k2m0 : Method := { name := "<init>", desc := "()V", sig := { parameters := [], returnType := none }, accessFlags := 2, code := none }
def k2c1 : Code := { maxStack := 2, maxLocals := 1, code := prog_35_method_6_code, exceptionTable := #[], attributes := #[] }
def k2m1 : Method := { name := "isVowel", desc := "(I)Z", sig := { parameters := [.int], returnType := some .boolean }, accessFlags := 8, code := some k2c1 }
/-- com/example/keen_guess/keenguess/edit/SoundKey -/
def k2 : Class := { plain "com/example/keen_guess/keenguess/edit/SoundKey" (some 0) with
  accessFlags := 33
  interfaces := #[]
  cf := some (fileOf pool2 11 #[] #[{ accessFlags := 2, nameIndex := 5, descriptorIndex := 6, attributes := #[] }, { accessFlags := 8, nameIndex := 18, descriptorIndex := 19, attributes := #[] }] 33 2 #[] #[{ accessFlags := 26, nameIndex := 56, descriptorIndex := 57, attributes := #[] }])
  fields := #[{ name := "ITSELF", type := (.array (.object "java/lang/String")), accessFlags := 26, slot := 0, constantValue := 0 }]
  methods := #[k2m0, k2m1]
  instanceTypes := #[]
  staticTypes := #[(.array (.object "java/lang/String"))]
  resolved := Array.replicate 105 none
  statics := none }

def pool3 : Array CpInfo := pool [(1, u "java/lang/Cloneable"), (0, .class_ 1), (0, u "java/lang/Object"), (0, .class_ 3)] 3

/-- java/lang/Cloneable -/
def k3 : Class := { plain "java/lang/Cloneable" (some 0) with
  accessFlags := 1537
  interfaces := #[]
  cf := some (fileOf pool3 2 #[] #[] 1537 4 #[] #[])
  fields := #[]
  methods := #[]
  instanceTypes := #[]
  staticTypes := #[]
  resolved := Array.replicate 8 none
  statics := none }

def pool4 : Array CpInfo := pool [(1, u "java/io/Serializable"), (0, .class_ 1), (0, u "java/lang/Object"), (0, .class_ 3)] 3

/-- java/io/Serializable -/
def k4 : Class := { plain "java/io/Serializable" (some 0) with
  accessFlags := 1537
  interfaces := #[]
  cf := some (fileOf pool4 2 #[] #[] 1537 4 #[] #[])
  fields := #[]
  methods := #[]
  instanceTypes := #[]
  staticTypes := #[]
  resolved := Array.replicate 8 none
  statics := none }

/-- the primitive byte -/
def k5 : Class := { plain "byte" none with kind := .primitive 'B', accessFlags := 0x411 }
/-- [B -/
def k6 : Class := { plain "[B" (some 0) with kind := .array 5 .byte, interfaces := #[3, 4], accessFlags := 1041 }

/-- the primitive int -/
def k7 : Class := { plain "int" none with kind := .primitive 'I', accessFlags := 0x411 }
/-- [I -/
def k8 : Class := { plain "[I" (some 0) with kind := .array 7 .int, interfaces := #[3, 4], accessFlags := 1041 }

def heap : Heap := #[]
def classes : Array Class := #[k0, k1, k2, k3, k4, k5, k6, k7, k8]
def interned : List (Array UInt16 × Addr) := []
def slotsUsed : Nat := 0
def theMethod : MethodId := ⟨1, 1⟩
def args0 : Array Value := #[.int 5, .int 7]
def aboutOver (below : List Frame) : State where
  vm := { classes := classes, interned := interned.toArray }
  heap := heap
  slotsUsed := slotsUsed
  threads := #[{ frames := .invoking theMethod args0 :: below }]
def below0 : List Frame := [.native { method := ⟨0, 0⟩, args := #[] }]
def about1 : State := aboutOver below0
def p0 : Program := .bare "" "" ""
def e0 : Env := launch0.env 0 0 0
theorem w_frames : about1.frames = Frame.invoking theMethod args0 :: below0 := rfl
set_option maxRecDepth 65536 in
theorem w_args : argsFit about1.vm theMethod args0 = true := by decide +kernel
set_option maxRecDepth 65536 in
theorem w_heap : heapFits about1 = true := by decide +kernel
set_option maxRecDepth 65536 in
theorem w_runnable : about1.curStatus? = some .runnable := by decide +kernel
set_option maxRecDepth 65536 in
theorem w_alone : about1.alone = true := by decide +kernel
set_option maxRecDepth 65536 in
theorem w_named : about1.methodNamed? x = some theMethod := by decide +kernel
set_option maxRecDepth 65536 in
theorem w_hears : about1.hears theMethod below0 = true := by decide +kernel
set_option maxRecDepth 65536 in
theorem w_ripe : about1.ripe theMethod args0 below0 = true := by decide +kernel
theorem w_running : about1.status = .running := rfl
set_option maxRecDepth 65536 in
theorem w_room : about1.hasRoom e0.platform room_1 = true :=
  launch0.hasRoom_least _ room_1 (by decide +kernel) (by decide +kernel) (by decide +kernel) (by decide +kernel) (by decide +kernel) (by decide +kernel)
theorem allAtoms_all (ts : List Jvm.Cond) (a : Array Jvm.Value) (st : Jvm.State) : (allAtoms ts).before a st = ts.all (fun c => c.before a st) := by
  induction ts with
  | nil => rfl
  | cons c t ih =>
    show (Jvm.Cond.and c (allAtoms t)).before a st = _
    rw [Jvm.Cond.before_and, ih, List.all_cons]
def words1 : List Jvm.Cond := Jvm.Cond.code x code maxLocals ret :: tables_1
/-- a 'code' word, met by the world's own term for the bytes: nothing is compared byte by byte -/
theorem code_word {y : MethodName} {bytes : ByteArray} {mx : Nat} {rt : Option FieldType} {a : Array Value} {s : State} {m : MethodId} {meth : Method} {c : Code} (h1 : s.methodNamed? y = some m) (h2 : s.vm.method? m = some meth) (h3 : meth.code = some c) (h4 : c.code = bytes)
    (h5 : (c.maxLocals == mx && c.exceptionTable.isEmpty && decide (c.maxStack ≤ mostOperands) && decide (meth.sig.returnType = rt) && !meth.locks && decide (parseMethodDescriptor y.desc = some meth.sig)) = true) : (Jvm.Cond.code y bytes mx rt).before a s = true := by
  simp only [Bool.and_eq_true, beq_iff_eq, Bool.not_eq_true', decide_eq_true_eq] at h5
  obtain ⟨⟨⟨⟨⟨g1, g2⟩, g3⟩, g4⟩, g5⟩, g6⟩ := h5
  simp [Cond.before, Cond.holds, Cond.value, h1, h2, h3, h4, g1, g2, g3, g4, g5, g6]
def isCode : Jvm.Cond → Bool
  | .code _ _ _ _ => true
  | _ => false
theorem all_split {L : List Jvm.Cond} {P : Jvm.Cond → Bool} (h1 : L.all (fun c => isCode c || P c) = true) (h2 : ∀ c ∈ L.filter isCode, P c = true) : L.all P = true := by
  refine List.all_eq_true.mpr fun c hc => ?_
  have h := List.all_eq_true.mp h1 c hc
  rcases Bool.eq_false_or_eq_true (isCode c) with hi | hi
  · exact h2 c (List.mem_filter.mpr ⟨hc, hi⟩)
  · simpa [hi] using h
set_option maxRecDepth 65536 in
theorem w_c0 : (Jvm.Cond.code x code maxLocals ret).before args0 about1 = true := code_word (m := ⟨1, 1⟩) (meth := k1m1) (c := k1c1) (by decide +kernel) rfl rfl rfl (by decide +kernel)
set_option maxRecDepth 65536 in
theorem w_c1 : (Jvm.Cond.code ({ cls := "com/example/keen_guess/keenguess/edit/SoundKey", name := "isVowel", desc := "(I)Z" } : Jvm.MethodName) prog_35_method_6_code (1 : Nat) (Option.some Jvm.ClassFile.FieldType.boolean)).before args0 about1 = true := code_word (m := ⟨2, 1⟩) (meth := k2m1) (c := k2c1) (by decide +kernel) rfl rfl rfl (by decide +kernel)
set_option maxRecDepth 65536 in
theorem w_c2 : (Jvm.Cond.code ({ cls := "com/example/keen_guess/keenguess/edit/SoundKeyIsVowelPinLaw", name := "expected", desc := "(I)Z" } : Jvm.MethodName) method_3_code (2 : Nat) (Option.some Jvm.ClassFile.FieldType.boolean)).before args0 about1 = true := code_word (m := ⟨1, 2⟩) (meth := k1m2) (c := k1c2) (by decide +kernel) rfl rfl rfl (by decide +kernel)
def codes1 : List Jvm.Cond := [Jvm.Cond.code x code maxLocals ret, Jvm.Cond.code ({ cls := "com/example/keen_guess/keenguess/edit/SoundKey", name := "isVowel", desc := "(I)Z" } : Jvm.MethodName) prog_35_method_6_code (1 : Nat) (Option.some Jvm.ClassFile.FieldType.boolean), Jvm.Cond.code ({ cls := "com/example/keen_guess/keenguess/edit/SoundKeyIsVowelPinLaw", name := "expected", desc := "(I)Z" } : Jvm.MethodName) method_3_code (2 : Nat) (Option.some Jvm.ClassFile.FieldType.boolean)]
set_option maxRecDepth 65536 in
theorem codes_eq : words1.filter isCode = codes1 := rfl
theorem w_codes : ∀ c ∈ words1.filter isCode, c.before args0 about1 = true := by
  rw [codes_eq]
  intro c hc
  simp only [codes1, List.mem_cons, List.not_mem_nil, or_false] at hc
  rcases hc with rfl | rfl | rfl
  · exact w_c0
  · exact w_c1
  · exact w_c2
set_option maxRecDepth 65536 in
theorem w_t1 : words1.all (fun c => isCode c || c.before args0 about1) = true := by decide +kernel
theorem w_tables : (allAtoms (Jvm.Cond.code x code maxLocals ret :: tables_1)).before args0 about1 = true := by
  rw [allAtoms_all]
  show words1.all (fun c => c.before args0 about1) = true
  refine all_split ?_ w_codes
  rw [w_t1]
set_option maxRecDepth 65536 in
theorem w_case : (Jvm.Cond.and given_1 narrow_1).before args0 about1 = true := by decide +kernel
theorem w_applies : (headSpec (Jvm.Cond.code x code maxLocals ret :: tables_1) room_1).applies x e0.platform about1 = true :=
  (Spec.applies_iff w_frames).mpr ⟨w_running, w_runnable, w_alone, w_named, w_hears, w_ripe, w_room, w_tables⟩
theorem atStart : AtStart classFile x code maxLocals ret World_1 tables_1 room_1 Calls_1 rest_1 Pre_1 launch0 p0 e0 about1 theMethod args0 below0 :=
  ⟨lists_1, trivial, launch0.admits_env _ _ _, launch0.least_env, fairChoices_fair.cas, fairChoices_fair.clock, w_frames, w_args, w_heap, w_applies, trivial, trivial, w_case⟩
end start1
theorem witness_1 : WitnessClaimed_1 := ⟨start1.p0, start1.e0, start1.about1, start1.theMethod, start1.args0, start1.below0, start1.atStart⟩
end Jvm.Pilot.@@N@@
