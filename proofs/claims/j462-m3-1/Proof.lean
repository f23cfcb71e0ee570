import JvmDerived
import JvmDerived.Pilot.@@N@@Statement
import JvmDerived.Pilot.@@N@@Code
set_option linter.unusedVariables false
set_option linter.unusedSimpArgs false
namespace Jvm.Free.XS
/-- lcmp's int; iushr's int -/
def cmpL (x y : Int64) : Int32 := if x > y then 1 else if x = y then 0 else -1
def ushr (x y : Int32) : Int32 := (x.toUInt32 >>> (y &&& 31).toUInt32).toInt32
end Jvm.Free.XS
namespace Jvm.RoadKit
open Sem ClassFile Op Lib Jvm.Stand Jvm.Free Jvm.LawKit
section Going
variable {p : Program} {l : Launch} {e : Env} {R : Room} {s : State} {m : MethodId} {args : Array Value} {below : List Frame} {meth : Method} {c : Code} {T T' : State} {locs : List Loc} {cells slots : Nat} {K N : Nat} {Q : Option Value → Heap → List Loc → Prop} {F : Option Value → State → Prop} {g g' : JFrame} {Z : State} {a0 : Array Value} {h : Heap}
/-- from this frame the run comes to the method's return, with what F says of the value and the end -/
def Go (p : Program) (e : Env) (below : List Frame) (F : Option Value → State → Prop) (T : State) (g : JFrame) : Prop :=
  ∃ s₂ o, Steps p.tables e below (T.setTop g) s₂ ∧ s₂.status = .running ∧ Ended s₂ below o ∧ ∃ v, o = .returned v ∧ F v s₂
/-- what is said of an end: Q of the value, the heap and the places written; and the frame -/
def GoEnd (s : State) (K N : Nat) (Q : Option Value → Heap → List Loc → Prop) (v : Option Value) (t : State) : Prop := ∃ L, Q v t.heap L ∧ FrameEnd s (.returned v) t L K N
theorem Go.of (q : ∀ t, Steps p.tables e below (T'.setTop g') t → Steps p.tables e below (T.setTop g) t) (k : Go p e below F T' g') : Go p e below F T g := by
  obtain ⟨s₂, o, h1, r⟩ := k; exact ⟨s₂, o, q _ h1, r⟩
theorem Go.via (q : Steps p.tables e below (T.setTop g) (T'.setTop g')) (k : Go p e below F T' g') : Go p e below F T g := Go.of (fun _ r => q.trans r) k
theorem Go.cast (q : g = g') (k : Go p e below F T g') : Go p e below F T g := q ▸ k
/-- a body's contract out of its walk -/
theorem goBody {y : MethodName} {bytes : ByteArray} {maxL : Nat} {ret : Option FieldType} {ws : List Cond} {rm : Room} {as' : Array Value} (hp : plainFor y = true)
    (body : ∀ p e s m below meth c s₁, p.tables.exec = Jvm.exec → Z.Warmed39 s.vm → c.code = bytes → c.maxLocals = maxL → s.vm.findClass y.cls = some m.cls → meth.name = y.name → meth.sig.returnType = ret → meth.locks = false →
      Stand p l e rm s m as' below meth c s₁ [] 0 0 → s₁.heap = h → Go p e below (GoEnd s rm.cells rm.slots Q) s₁ (entryFrame m as' maxL)) :
    MetFree l y (head1 (Cond.code y bytes maxL ret :: ws) rm) (fun a U => a = as' ∧ Z.Warmed39 U.vm ∧ U.heap = h) (fun _ _ _ _ _ => True) (fun _ U o U' => ∃ v L, o = .returned v ∧ Q v U'.heap L ∧ FrameEnd U o U' L rm.cells rm.slots) := by
  refine MetFree.of_bodySF hp hisR ?_
  intro p e s m args below meth c s₁ Bd hml hP hK
  obtain ⟨rfl, hZ, hh⟩ := hP
  obtain ⟨s₂, o, h1, h2, h3, v, rfl, L, h4, h5⟩ := body p e s m below meth c s₁ Bd.exec hZ Bd.bytes hml (findClass_of_methodNamed Bd.named) (name_of_methodNamed Bd.named Bd.method).1 Bd.returns Bd.notSynchronized (Stand.of_body Bd) (by rw [← hh, Bd.state]; rfl)
  exact ⟨s₂, _, h1, h2, h3, v, L, rfl, h4, h5⟩
theorem Go.retI (X : Stand p l e R s m args below meth c T locs cells slots) (hx : p.tables.exec = Jvm.exec) (hlk : meth.locks = false) {pc : Nat} {Ls : Array Slot} {z : Int32} {rest : List Value} (hret : meth.sig.returnType = some .int) (hd : decode c.code pc = .ok (.ireturn, 1)) (hK : cells ≤ K) (hN : slots ≤ N) (hq : Q (some (.int z)) T.heap locs) : Go p e below (GoEnd s K N Q) T (mkF m pc Ls (.int z :: rest)) := by
  obtain ⟨fs, hr, hrun, hended, hW, hsame⟩ := X.leave (v := some (.int z)) (fun h => by rw [hret] at h; cases h) hlk
  exact ⟨_, _, retOut X hx (t := .int) (i := .ireturn) hret rfl (Or.inl ⟨rfl, Or.inl rfl, z, rfl⟩) hd hr, hrun, hended, _, rfl, _, hq, ⟨_, rfl⟩, hW, hsame.mono hK hN⟩
theorem Go.retN (X : Stand p l e R s m args below meth c T locs cells slots) (hx : p.tables.exec = Jvm.exec) (hlk : meth.locks = false) {pc : Nat} {Ls : Array Slot} {z : Int32} {t : FieldType} {rest : List Value} (hret : meth.sig.returnType = some t) (ht : t = .boolean ∨ t = .byte ∨ t = .char ∨ t = .short) (hd : decode c.code pc = .ok (.ireturn, 1)) (hK : cells ≤ K) (hN : slots ≤ N) (hq : Q (some (.int (nar t z))) T.heap locs) : Go p e below (GoEnd s K N Q) T (mkF m pc Ls (.int z :: rest)) := by
  obtain ⟨fs, hr, hrun, hended, hW, hsame⟩ := X.leave (v := some (.int (nar t z))) (fun h => by rw [hret] at h; cases h) hlk
  exact ⟨_, _, Jvm.RoadKit.retN X hx (t := t) hret ht hd hr, hrun, hended, _, rfl, _, hq, ⟨_, rfl⟩, hW, hsame.mono hK hN⟩
theorem Go.retJ (X : Stand p l e R s m args below meth c T locs cells slots) (hx : p.tables.exec = Jvm.exec) (hlk : meth.locks = false) {pc : Nat} {Ls : Array Slot} {z : Int64} {rest : List Value} (hret : meth.sig.returnType = some .long) (hd : decode c.code pc = .ok (.lreturn, 1)) (hK : cells ≤ K) (hN : slots ≤ N) (hq : Q (some (.long z)) T.heap locs) : Go p e below (GoEnd s K N Q) T (mkF m pc Ls (.long z :: rest)) := by
  obtain ⟨fs, hr, hrun, hended, hW, hsame⟩ := X.leave (v := some (.long z)) (fun h => by rw [hret] at h; cases h) hlk
  exact ⟨_, _, retOut X hx (t := .long) (i := .lreturn) hret rfl (Or.inr (Or.inl ⟨rfl, rfl, z, rfl⟩)) hd hr, hrun, hended, _, rfl, _, hq, ⟨_, rfl⟩, hW, hsame.mono hK hN⟩
theorem Go.retD (X : Stand p l e R s m args below meth c T locs cells slots) (hx : p.tables.exec = Jvm.exec) (hlk : meth.locks = false) {pc : Nat} {Ls : Array Slot} {z : UInt64} {rest : List Value} (hret : meth.sig.returnType = some .double) (hd : decode c.code pc = .ok (.dreturn, 1)) (hK : cells ≤ K) (hN : slots ≤ N) (hq : Q (some (.double z)) T.heap locs) : Go p e below (GoEnd s K N Q) T (mkF m pc Ls (.double z :: rest)) := by
  obtain ⟨fs, hr, hrun, hended, hW, hsame⟩ := X.leave (v := some (.double z)) (fun h => by rw [hret] at h; cases h) hlk
  exact ⟨_, _, retOut X hx (t := .double) (i := .dreturn) hret rfl (Or.inr (Or.inr (Or.inl ⟨rfl, rfl, z, rfl⟩))) hd hr, hrun, hended, _, rfl, _, hq, ⟨_, rfl⟩, hW, hsame.mono hK hN⟩
theorem Go.retA (X : Stand p l e R s m args below meth c T locs cells slots) (hx : p.tables.exec = Jvm.exec) (hlk : meth.locks = false) {pc : Nat} {Ls : Array Slot} {v : Value} {t : FieldType} {rest : List Value} (hret : meth.sig.returnType = some t) (ht : t.isReference = true) (hv : v.isRef = true) (hn : narrow t v = v) (hd : decode c.code pc = .ok (.areturn, 1)) (hK : cells ≤ K) (hN : slots ≤ N) (hq : Q (some v) T.heap locs) : Go p e below (GoEnd s K N Q) T (mkF m pc Ls (v :: rest)) := by
  obtain ⟨fs, hr, hrun, hended, hW, hsame⟩ := X.leave (v := some v) (fun h => by rw [hret] at h; cases h) hlk
  exact ⟨_, _, retOut X hx (t := t) (i := .areturn) hret hn (Or.inr (Or.inr (Or.inr (Or.inr ⟨rfl, ht, hv⟩)))) hd hr, hrun, hended, _, rfl, _, hq, ⟨_, rfl⟩, hW, hsame.mono hK hN⟩
theorem Go.retV (X : Stand p l e R s m args below meth c T locs cells slots) (hx : p.tables.exec = Jvm.exec) (hlk : meth.locks = false) {pc : Nat} {Ls : Array Slot} (hret : meth.sig.returnType = none) (hd : decode c.code pc = .ok (.return_, 1)) (hK : cells ≤ K) (hN : slots ≤ N) (hq : Q none T.heap locs) : Go p e below (GoEnd s K N Q) T (mkF m pc Ls []) := by
  obtain ⟨fs, hr, hrun, hended, hW, hsame⟩ := X.leave (v := none) (fun _ => rfl) hlk
  exact ⟨_, _, X.returnOut hx hret hd hr, hrun, hended, _, rfl, _, hq, ⟨_, rfl⟩, hW, hsame.mono hK hN⟩
/-- what a callee that writes and makes nothing leaves -/
def PQ (h : Heap) (r : Option Value) (v : Option Value) (h' : Heap) (L : List Loc) : Prop := v = r ∧ L = [] ∧ h' = h
/-- a contract in the form in which a call takes it -/
abbrev MetAt (l : Launch) (Z : State) (y : MethodName) (bytes : ByteArray) (maxL : Nat) (ret : Option FieldType) (rm : Room) (as' : Array Value) (h : Heap) (Q : Option Value → Heap → List Loc → Prop) : Prop :=
  MetFree l y (head1 [Cond.code y bytes maxL ret] rm) (fun a U => a = as' ∧ Z.Warmed39 U.vm ∧ U.heap = h) (fun _ _ _ _ _ => True) (fun _ U o U' => ∃ v L, o = .returned v ∧ Q v U'.heap L ∧ FrameEnd U o U' L rm.cells rm.slots)
variable {own : String} {index : Nat} {y z : MethodName} {bytes : ByteArray} {maxL W pc : Nat} {ret : Option FieldType} {rm : Room} {Qc : Option Value → Heap → List Loc → Prop} {argsL rest st : List Value} {Ls : Array Slot}
theorem Go.callS (X : Stand p l e R s m args below meth c T locs cells slots) (hx : p.tables.exec = Jvm.exec) (hZ : Z.Warmed39 s.vm) (hown : s.vm.findClass own = some m.cls)
    (wl : (Cond.methodLink own index y).before a0 Z = true) (ws : (Cond.static y).before a0 Z = true) (wz : (Cond.initialized y.cls).before a0 Z = true) (wc : (Cond.code y bytes maxL ret).before a0 Z = true)
    (hy : y.cls ≠ "java/lang/invoke/MethodHandle" ∧ y.cls ≠ "java/lang/invoke/VarHandle") (hM : MetAt l Z y bytes maxL ret rm argsL.toArray h Qc) (eT : T.heap = h) (hsize : Ls.size = c.maxLocals)
    (hlen : ∀ sig, parseMethodDescriptor y.desc = some sig → argsL.length = sig.parameters.length) (hd : decode c.code pc = .ok (.invokestatic index, 3)) (hst : st = argsL.reverse ++ rest)
    (hW : (rest.map fun v => v.category).sum ≤ W) (hf : rm.frames + 1 ≤ R.frames) (hl : W + (maxL + 11) + rm.locals ≤ R.locals) (hc : cells + rm.cells ≤ R.cells) (hs : slots + rm.slots ≤ R.slots)
    (k : ∀ v T' L', Stand p l e R s m args below meth c T' (locs ++ L') (cells + rm.cells) (slots + rm.slots) → Qc v T'.heap L' → Go p e below F T' (mkF m (pc + 3) Ls (v.toList ++ rest))) : Go p e below F T (mkF m pc Ls st) := by
  obtain ⟨v, vm₁, ⟨T', L', k', n'⟩, -, X', ⟨Lc, hQ, l1, y1, z1⟩, stp⟩ := Jvm.LawKit.callS X hx hown (mvT hZ wl) (mvT hZ ws) (mvT hZ wz) (mvT hZ wc) hy (backOf (W := W) hM hZ wc wz hf hl) (g := mkF m pc Ls st) rfl hsize hlen hst (by show 2 * 0 + _ ≤ _; omega) hd (fun _ _ => ⟨rfl, eT, hc, hs⟩)
  dsimp only [Pt.U, Pt.locs, Pt.cells, Pt.slots] at X' l1 y1 z1 stp hQ
  subst l1 y1 z1
  exact Go.of stp (k v T' Lc X' hQ)
theorem Go.callSP (X : Stand p l e R s m args below meth c T locs cells slots) (hx : p.tables.exec = Jvm.exec) (hZ : Z.Warmed39 s.vm) (hown : s.vm.findClass own = some m.cls)
    (wl : (Cond.methodLink own index y).before a0 Z = true) (ws : (Cond.static y).before a0 Z = true) (wz : (Cond.initialized y.cls).before a0 Z = true) (wc : (Cond.code y bytes maxL ret).before a0 Z = true)
    (hy : y.cls ≠ "java/lang/invoke/MethodHandle" ∧ y.cls ≠ "java/lang/invoke/VarHandle") {r : Option Value} {fr lo : Nat} (hM : MetAt l Z y bytes maxL ret { frames := fr, cells := 0, slots := 0, locals := lo } argsL.toArray h (PQ h r)) (eT : T.heap = h) (hsize : Ls.size = c.maxLocals)
    (hlen : ∀ sig, parseMethodDescriptor y.desc = some sig → argsL.length = sig.parameters.length) (hd : decode c.code pc = .ok (.invokestatic index, 3)) (hst : st = argsL.reverse ++ rest)
    (hW : (rest.map fun v => v.category).sum ≤ W) (hf : fr + 1 ≤ R.frames) (hl : W + (maxL + 11) + lo ≤ R.locals) (hc : cells ≤ R.cells) (hs : slots ≤ R.slots)
    (k : ∀ T', Stand p l e R s m args below meth c T' locs cells slots → T'.heap = h → Go p e below F T' (mkF m (pc + 3) Ls (r.toList ++ rest))) : Go p e below F T (mkF m pc Ls st) := by
  refine Go.callS X hx hZ hown wl ws wz wc hy hM eT hsize hlen hd hst hW hf hl hc hs fun v T' L' X' q => ?_
  obtain ⟨rfl, rfl, e'⟩ := q
  rw [List.append_nil] at X'
  exact k T' X' e'
theorem Go.callI (X : Stand p l e R s m args below meth c T locs cells slots) (hx : p.tables.exec = Jvm.exec) (hZ : Z.Warmed39 s.vm) (hy1 : y.name = "<init>") (hown : s.vm.findClass own = some m.cls)
    (wl : (Cond.methodLink own index y).before a0 Z = true) (wi : (Cond.instanceMethod y).before a0 Z = true) (wz : (Cond.initialized y.cls).before a0 Z = true) (wc : (Cond.code y bytes maxL none).before a0 Z = true)
    (hy : y.cls ≠ "java/lang/invoke/MethodHandle" ∧ y.cls ≠ "java/lang/invoke/VarHandle") {a : Addr} (hM : MetAt l Z y bytes maxL none rm (.ref a :: argsL).toArray h Qc) (eT : T.heap = h) (hsize : Ls.size = c.maxLocals)
    (hlen : ∀ sig, parseMethodDescriptor y.desc = some sig → argsL.length = sig.parameters.length) (hd : decode c.code pc = .ok (.invokespecial index, 3)) (hst : st = argsL.reverse ++ .ref a :: rest)
    (hW : (rest.map fun v => v.category).sum ≤ W) (hf : rm.frames + 1 ≤ R.frames) (hl : W + (maxL + 11) + rm.locals ≤ R.locals) (hc : cells + rm.cells ≤ R.cells) (hs : slots + rm.slots ≤ R.slots)
    (k : ∀ v T' L', Stand p l e R s m args below meth c T' (locs ++ L') (cells + rm.cells) (slots + rm.slots) → Qc v T'.heap L' → Go p e below F T' (mkF m (pc + 3) Ls (v.toList ++ rest))) : Go p e below F T (mkF m pc Ls st) := by
  obtain ⟨v, vm₁, ⟨T', L', k', n'⟩, -, X', ⟨Lc, hQ, l1, y1, z1⟩, stp⟩ := X.specialBack hx hy1 hown (mvT hZ wl) (mvT hZ wi) (mvT hZ wc) hy (backOf (W := W) hM hZ wc wz hf hl) (g := mkF m pc Ls st) rfl hsize (Steps.refl _) (a := a) hlen hst (by show 2 * 0 + _ ≤ _; omega) hd (fun _ _ => ⟨rfl, eT, hc, hs⟩)
  dsimp only [Pt.U, Pt.locs, Pt.cells, Pt.slots] at X' l1 y1 z1 stp hQ
  subst l1 y1 z1
  exact Go.via stp (k v T' Lc X' hQ)
theorem Go.callV (X : Stand p l e R s m args below meth c T locs cells slots) (hx : p.tables.exec = Jvm.exec) (hZ : Z.Warmed39 s.vm) (hown : s.vm.findClass own = some m.cls) {C : String}
    (wl : (Cond.methodLink own index y).before a0 Z = true) (wd : (Cond.declares y).before a0 Z = true) (hnf : NotFace s y) (wse : (Cond.selects C y z).before a0 Z = true) (wi : (Cond.instanceMethod z).before a0 Z = true) (wz : (Cond.initialized z.cls).before a0 Z = true) (wc : (Cond.code z bytes maxL ret).before a0 Z = true)
    (hy : y.cls ≠ "java/lang/invoke/MethodHandle" ∧ y.cls ≠ "java/lang/invoke/VarHandle") {a : Addr} (hM : MetAt l Z z bytes maxL ret rm (.ref a :: argsL).toArray h Qc) (eT : T.heap = h) (hE : Exa Z h a C) (hsize : Ls.size = c.maxLocals)
    (hlen : ∀ sig, parseMethodDescriptor y.desc = some sig → argsL.length = sig.parameters.length) (hd : decode c.code pc = .ok (.invokevirtual index, 3)) (hst : st = argsL.reverse ++ .ref a :: rest)
    (hW : (rest.map fun v => v.category).sum ≤ W) (hf : rm.frames + 1 ≤ R.frames) (hl : W + (maxL + 11) + rm.locals ≤ R.locals) (hc : cells + rm.cells ≤ R.cells) (hs : slots + rm.slots ≤ R.slots)
    (k : ∀ v T' L', Stand p l e R s m args below meth c T' (locs ++ L') (cells + rm.cells) (slots + rm.slots) → Qc v T'.heap L' → Go p e below F T' (mkF m (pc + 3) Ls (v.toList ++ rest))) : Go p e below F T (mkF m pc Ls st) := by
  obtain ⟨cq, kq, q1, q2, q3⟩ := isOf hZ eT hE
  obtain ⟨v, vm₁, ⟨T', L', k', n'⟩, -, X', ⟨Lc, hQ, l1, y1, z1⟩, stp⟩ := X.virtualBack hx (y := y) (z := z) hown (mvT hZ wl) (mvT hZ wd) hnf (mvT hZ wse) (mvT hZ wi) hy (backOf (W := W) hM hZ wc wz hf hl) q1 q3 (g := mkF m pc Ls st) rfl hsize (Steps.refl _) hlen hst (by show 2 * 0 + _ ≤ _; omega) hd (fun _ _ => ⟨rfl, eT, hc, hs⟩)
  dsimp only [Pt.U, Pt.locs, Pt.cells, Pt.slots] at X' l1 y1 z1 stp hQ
  subst l1 y1 z1
  exact Go.via stp (k v T' Lc X' hQ)
theorem Go.callVP (X : Stand p l e R s m args below meth c T locs cells slots) (hx : p.tables.exec = Jvm.exec) (hZ : Z.Warmed39 s.vm) (hown : s.vm.findClass own = some m.cls) {C : String}
    (wl : (Cond.methodLink own index y).before a0 Z = true) (wd : (Cond.declares y).before a0 Z = true) (hnf : NotFace s y) (wse : (Cond.selects C y z).before a0 Z = true) (wi : (Cond.instanceMethod z).before a0 Z = true) (wz : (Cond.initialized z.cls).before a0 Z = true) (wc : (Cond.code z bytes maxL ret).before a0 Z = true)
    (hy : y.cls ≠ "java/lang/invoke/MethodHandle" ∧ y.cls ≠ "java/lang/invoke/VarHandle") {a : Addr} {r : Option Value} {fr lo : Nat} (hM : MetAt l Z z bytes maxL ret { frames := fr, cells := 0, slots := 0, locals := lo } (.ref a :: argsL).toArray h (PQ h r)) (eT : T.heap = h) (hE : Exa Z h a C) (hsize : Ls.size = c.maxLocals)
    (hlen : ∀ sig, parseMethodDescriptor y.desc = some sig → argsL.length = sig.parameters.length) (hd : decode c.code pc = .ok (.invokevirtual index, 3)) (hst : st = argsL.reverse ++ .ref a :: rest)
    (hW : (rest.map fun v => v.category).sum ≤ W) (hf : fr + 1 ≤ R.frames) (hl : W + (maxL + 11) + lo ≤ R.locals) (hc : cells ≤ R.cells) (hs : slots ≤ R.slots)
    (k : ∀ T', Stand p l e R s m args below meth c T' locs cells slots → T'.heap = h → Go p e below F T' (mkF m (pc + 3) Ls (r.toList ++ rest))) : Go p e below F T (mkF m pc Ls st) := by
  refine Go.callV X hx hZ hown wl wd hnf wse wi wz wc hy hM eT hE hsize hlen hd hst hW hf hl hc hs fun v T' L' X' q => ?_
  obtain ⟨rfl, rfl, e'⟩ := q
  rw [List.append_nil] at X'
  exact k T' X' e'
theorem Go.callIP (X : Stand p l e R s m args below meth c T locs cells slots) (hx : p.tables.exec = Jvm.exec) (hZ : Z.Warmed39 s.vm) (hy1 : y.name = "<init>") (hown : s.vm.findClass own = some m.cls)
    (wl : (Cond.methodLink own index y).before a0 Z = true) (wi : (Cond.instanceMethod y).before a0 Z = true) (wz : (Cond.initialized y.cls).before a0 Z = true) (wc : (Cond.code y bytes maxL none).before a0 Z = true)
    (hy : y.cls ≠ "java/lang/invoke/MethodHandle" ∧ y.cls ≠ "java/lang/invoke/VarHandle") {a : Addr} {fr lo : Nat} (hM : MetAt l Z y bytes maxL none { frames := fr, cells := 0, slots := 0, locals := lo } (.ref a :: argsL).toArray h (PQ h none)) (eT : T.heap = h) (hsize : Ls.size = c.maxLocals)
    (hlen : ∀ sig, parseMethodDescriptor y.desc = some sig → argsL.length = sig.parameters.length) (hd : decode c.code pc = .ok (.invokespecial index, 3)) (hst : st = argsL.reverse ++ .ref a :: rest)
    (hW : (rest.map fun v => v.category).sum ≤ W) (hf : fr + 1 ≤ R.frames) (hl : W + (maxL + 11) + lo ≤ R.locals) (hc : cells ≤ R.cells) (hs : slots ≤ R.slots)
    (k : ∀ T', Stand p l e R s m args below meth c T' locs cells slots → T'.heap = h → Go p e below F T' (mkF m (pc + 3) Ls rest)) : Go p e below F T (mkF m pc Ls st) := by
  refine Go.callI X hx hZ hy1 hown wl wi wz wc hy hM eT hsize hlen hd hst hW hf hl hc hs fun v T' L' X' q => ?_
  obtain ⟨rfl, rfl, e'⟩ := q
  rw [List.append_nil] at X'
  exact k T' X' e'
end Going
end Jvm.RoadKit
namespace Jvm.RoadKit
open Sem ClassFile Op Lib Jvm.Stand Jvm.Free Jvm.LawKit
section Heaping
variable {p : Program} {l : Launch} {e : Env} {R : Room} {s : State} {m : MethodId} {args : Array Value} {below : List Frame} {meth : Method} {c : Code} {T : State} {locs : List Loc} {cells slots : Nat} {Fi : Option Value → State → Prop} {Z : State} {a0 : Array Value} {h : Heap} {a : Addr} {k : ClassId} {ty : FieldType} {z j x : Int32} {vs rest st : List Value} {dv v : Value} {pc : Nat} {Ls : Array Slot} {own C O n d host : String} {index nn : Nat}
theorem Arv.load (F : Arv Z h a k ty z vs dv) (hj : ¬ j < 0 ∧ j < z) : ∃ cl, Arr Z h a cl ty ∧ ¬ (j < 0 ∨ cl.slots.size ≤ j.toNatClampNeg) ∧ cl.slots[j.toNatClampNeg]? = some (vs.getD j.toNatClampNeg dv) := by
  obtain ⟨cl, A, -, S, -, H, -⟩ := F
  exact ⟨cl, A, inb_of S hj, H.at (inb_of S hj) rfl⟩
theorem Go.iaload (X : Stand p l e R s m args below meth c T locs cells slots) (hx : p.tables.exec = Jvm.exec) (hZ : Z.Warmed39 s.vm) (eT : T.heap = h) (F : Arv Z h a k .int z vs dv) (hj : ¬ j < 0 ∧ j < z) (hv : vs.getD j.toNatClampNeg dv = v) (hd : decode c.code pc = .ok (.iaload, 1)) (kk : Go p e below Fi T (mkF m (pc + 1) Ls (v :: rest))) : Go p e below Fi T (mkF m pc Ls (.int j :: .ref a :: rest)) := by
  obtain ⟨cl, A, i1, i2⟩ := F.load hj
  rw [hv] at i2
  exact Go.of (fun t q => X.iaload hx (by rw [eT]; exact A.1) (State.isArrayOf_alike hZ.alike A.2.1) A.2.2 i1 i2 (g := mkF m pc Ls (.int j :: .ref a :: rest)) rfl rfl hd t q) kk
theorem Go.laload (X : Stand p l e R s m args below meth c T locs cells slots) (hx : p.tables.exec = Jvm.exec) (hZ : Z.Warmed39 s.vm) (eT : T.heap = h) (F : Arv Z h a k .long z vs dv) (hj : ¬ j < 0 ∧ j < z) (hv : vs.getD j.toNatClampNeg dv = v) (hd : decode c.code pc = .ok (.laload, 1)) (kk : Go p e below Fi T (mkF m (pc + 1) Ls (v :: rest))) : Go p e below Fi T (mkF m pc Ls (.int j :: .ref a :: rest)) := by
  obtain ⟨cl, A, i1, i2⟩ := F.load hj
  rw [hv] at i2
  exact Go.of (fun t q => X.laload hx (by rw [eT]; exact A.1) (State.isArrayOf_alike hZ.alike A.2.1) A.2.2 i1 i2 (g := mkF m pc Ls (.int j :: .ref a :: rest)) rfl rfl hd t q) kk
theorem Go.baload (X : Stand p l e R s m args below meth c T locs cells slots) (hx : p.tables.exec = Jvm.exec) (hZ : Z.Warmed39 s.vm) (eT : T.heap = h) (F : Arv Z h a k .byte z vs dv) (hj : ¬ j < 0 ∧ j < z) (hv : vs.getD j.toNatClampNeg dv = v) (hd : decode c.code pc = .ok (.baload, 1)) (kk : Go p e below Fi T (mkF m (pc + 1) Ls (v :: rest))) : Go p e below Fi T (mkF m pc Ls (.int j :: .ref a :: rest)) := by
  obtain ⟨cl, A, i1, i2⟩ := F.load hj
  rw [hv] at i2
  exact Go.of (fun t q => X.baloadBytes hx (by rw [eT]; exact A.1) (State.isArrayOf_alike hZ.alike A.2.1) A.2.2 i1 i2 (g := mkF m pc Ls (.int j :: .ref a :: rest)) rfl rfl hd t q) kk
theorem Go.caload (X : Stand p l e R s m args below meth c T locs cells slots) (hx : p.tables.exec = Jvm.exec) (hZ : Z.Warmed39 s.vm) (eT : T.heap = h) (F : Arv Z h a k .char z vs dv) (hj : ¬ j < 0 ∧ j < z) (hv : vs.getD j.toNatClampNeg dv = v) (hd : decode c.code pc = .ok (.caload, 1)) (kk : Go p e below Fi T (mkF m (pc + 1) Ls (v :: rest))) : Go p e below Fi T (mkF m pc Ls (.int j :: .ref a :: rest)) := by
  obtain ⟨cl, A, i1, i2⟩ := F.load hj
  rw [hv] at i2
  exact Go.of (fun t q => X.caload hx (by rw [eT]; exact A.1) (State.isArrayOf_alike hZ.alike A.2.1) A.2.2 i1 i2 (g := mkF m pc Ls (.int j :: .ref a :: rest)) rfl rfl hd t q) kk
theorem Go.aaload (X : Stand p l e R s m args below meth c T locs cells slots) (hx : p.tables.exec = Jvm.exec) (hZ : Z.Warmed39 s.vm) (eT : T.heap = h) (F : Arv Z h a k ty z vs dv) (hty : ty.isReference = true) (hj : ¬ j < 0 ∧ j < z) (hv : vs.getD j.toNatClampNeg dv = v) (hd : decode c.code pc = .ok (.aaload, 1)) (kk : Go p e below Fi T (mkF m (pc + 1) Ls (v :: rest))) : Go p e below Fi T (mkF m pc Ls (.int j :: .ref a :: rest)) := by
  obtain ⟨cl, A, i1, i2⟩ := F.load hj
  rw [hv] at i2
  exact Go.of (fun t q => X.aaload hx (by rw [eT]; exact A.1) (State.isArrayOf_alike hZ.alike A.2.1) hty A.2.2 i1 i2 (g := mkF m pc Ls (.int j :: .ref a :: rest)) rfl rfl hd t q) kk
theorem Go.daload (X : Stand p l e R s m args below meth c T locs cells slots) (hx : p.tables.exec = Jvm.exec) (hZ : Z.Warmed39 s.vm) (eT : T.heap = h) (F : Arv Z h a k .double z vs dv) (hj : ¬ j < 0 ∧ j < z) (hv : vs.getD j.toNatClampNeg dv = v) (hd : decode c.code pc = .ok (.daload, 1)) (kk : Go p e below Fi T (mkF m (pc + 1) Ls (v :: rest))) : Go p e below Fi T (mkF m pc Ls (.int j :: .ref a :: rest)) := by
  obtain ⟨cl, A, i1, i2⟩ := F.load hj
  rw [hv] at i2
  exact Go.of (fun t q => X.daload hx (by rw [eT]; exact A.1) (State.isArrayOf_alike hZ.alike A.2.1) A.2.2 i1 i2 (g := mkF m pc Ls (.int j :: .ref a :: rest)) rfl rfl hd t q) kk
theorem Go.dastore {x : UInt64} (X : Stand p l e R s m args below meth c T locs cells slots) (hx : p.tables.exec = Jvm.exec) (hZ : Z.Warmed39 s.vm) (eT : T.heap = h) (F : Arv Z h a k .double z vs dv) (hj : ¬ j < 0 ∧ j < z) (i : Nat) (hji : j.toNatClampNeg = i) (hi : i < vs.length) (hd : decode c.code pc = .ok (.dastore, 1))
    (kk : ∀ T' h', Stand p l e R s m args below meth c T' (locs ++ [⟨a, i⟩]) cells slots → T'.heap = h' → Wr h h' a i (.double x) → Arv Z h' a k .double z (vs.set i (.double x)) dv → Go p e below Fi T' (mkF m (pc + 1) Ls rest)) : Go p e below Fi T (mkF m pc Ls (.double x :: .int j :: .ref a :: rest)) := by
  obtain ⟨cl, A, q, S, M, H, G⟩ := F
  subst hji
  obtain ⟨T', h', X', e', W', st⟩ := stD X hx hZ eT A (inb_of S hj) (g := mkF m pc Ls (.double x :: .int j :: .ref a :: rest)) rfl rfl hd
  exact Go.of st (kk T' h' X' e' W' (Arv.set A q S M H G rfl W' _ rfl hi))
theorem Go.len (X : Stand p l e R s m args below meth c T locs cells slots) (hx : p.tables.exec = Jvm.exec) (hZ : Z.Warmed39 s.vm) (eT : T.heap = h) (F : Arv Z h a k ty z vs dv) (hd : decode c.code pc = .ok (.arraylength, 1)) (kk : Go p e below Fi T (mkF m (pc + 1) Ls (.int z :: rest))) : Go p e below Fi T (mkF m pc Ls (.ref a :: rest)) := by
  obtain ⟨cl, A, -, S, M, -, -⟩ := F
  exact Go.of (fun t q => X.arraylength hx (a := a) (cell := cl) (ty := ty) (by rw [eT]; exact A.1) (State.isArrayOf_alike hZ.alike A.2.1) (g := mkF m pc Ls (.ref a :: rest)) rfl (rest := rest) rfl hd t (by rw [len_of S M]; exact q)) kk
theorem Go.iastore (X : Stand p l e R s m args below meth c T locs cells slots) (hx : p.tables.exec = Jvm.exec) (hZ : Z.Warmed39 s.vm) (eT : T.heap = h) (F : Arv Z h a k .int z vs dv) (hj : ¬ j < 0 ∧ j < z) (i : Nat) (hji : j.toNatClampNeg = i) (hi : i < vs.length) (hd : decode c.code pc = .ok (.iastore, 1))
    (kk : ∀ T' h', Stand p l e R s m args below meth c T' (locs ++ [⟨a, i⟩]) cells slots → T'.heap = h' → Wr h h' a i (.int x) → Arv Z h' a k .int z (vs.set i (.int x)) dv → Go p e below Fi T' (mkF m (pc + 1) Ls rest)) : Go p e below Fi T (mkF m pc Ls (.int x :: .int j :: .ref a :: rest)) := by
  obtain ⟨cl, A, q, S, M, H, G⟩ := F
  subst hji
  obtain ⟨T', h', X', e', W', st⟩ := stI X hx hZ eT A (inb_of S hj) (g := mkF m pc Ls (.int x :: .int j :: .ref a :: rest)) rfl rfl hd
  exact Go.of st (kk T' h' X' e' W' (Arv.set A q S M H G rfl W' _ rfl hi))
theorem Go.lastore {x : Int64} (X : Stand p l e R s m args below meth c T locs cells slots) (hx : p.tables.exec = Jvm.exec) (hZ : Z.Warmed39 s.vm) (eT : T.heap = h) (F : Arv Z h a k .long z vs dv) (hj : ¬ j < 0 ∧ j < z) (i : Nat) (hji : j.toNatClampNeg = i) (hi : i < vs.length) (hd : decode c.code pc = .ok (.lastore, 1))
    (kk : ∀ T' h', Stand p l e R s m args below meth c T' (locs ++ [⟨a, i⟩]) cells slots → T'.heap = h' → Wr h h' a i (.long x) → Arv Z h' a k .long z (vs.set i (.long x)) dv → Go p e below Fi T' (mkF m (pc + 1) Ls rest)) : Go p e below Fi T (mkF m pc Ls (.long x :: .int j :: .ref a :: rest)) := by
  obtain ⟨cl, A, q, S, M, H, G⟩ := F
  subst hji
  obtain ⟨T', h', X', e', W', st⟩ := stJ X hx hZ eT A (inb_of S hj) (g := mkF m pc Ls (.long x :: .int j :: .ref a :: rest)) rfl rfl hd
  exact Go.of st (kk T' h' X' e' W' (Arv.set A q S M H G rfl W' _ rfl hi))
theorem Go.bastore (X : Stand p l e R s m args below meth c T locs cells slots) (hx : p.tables.exec = Jvm.exec) (hZ : Z.Warmed39 s.vm) (eT : T.heap = h) (F : Arv Z h a k .byte z vs dv) (hj : ¬ j < 0 ∧ j < z) (i : Nat) (hji : j.toNatClampNeg = i) (hi : i < vs.length) (hd : decode c.code pc = .ok (.bastore, 1))
    (kk : ∀ T' h', Stand p l e R s m args below meth c T' (locs ++ [⟨a, i⟩]) cells slots → T'.heap = h' → Wr h h' a i (.int (nar .byte x)) → Arv Z h' a k .byte z (vs.set i (.int (nar .byte x))) dv → Go p e below Fi T' (mkF m (pc + 1) Ls rest)) : Go p e below Fi T (mkF m pc Ls (.int x :: .int j :: .ref a :: rest)) := by
  obtain ⟨cl, A, q, S, M, H, G⟩ := F
  subst hji
  obtain ⟨T', h', X', e', W', st⟩ := stB X hx hZ eT A (inb_of S hj) (g := mkF m pc Ls (.int x :: .int j :: .ref a :: rest)) rfl rfl hd
  exact Go.of st (kk T' h' X' e' W' (Arv.set A q S M H G (fits_nar_byte _) W' _ rfl hi))
theorem Go.castore (X : Stand p l e R s m args below meth c T locs cells slots) (hx : p.tables.exec = Jvm.exec) (hZ : Z.Warmed39 s.vm) (eT : T.heap = h) (F : Arv Z h a k .char z vs dv) (hj : ¬ j < 0 ∧ j < z) (i : Nat) (hji : j.toNatClampNeg = i) (hi : i < vs.length) (hd : decode c.code pc = .ok (.castore, 1))
    (kk : ∀ T' h', Stand p l e R s m args below meth c T' (locs ++ [⟨a, i⟩]) cells slots → T'.heap = h' → Wr h h' a i (.int (nar .char x)) → Arv Z h' a k .char z (vs.set i (.int (nar .char x))) dv → Go p e below Fi T' (mkF m (pc + 1) Ls rest)) : Go p e below Fi T (mkF m pc Ls (.int x :: .int j :: .ref a :: rest)) := by
  obtain ⟨cl, A, q, S, M, H, G⟩ := F
  subst hji
  obtain ⟨T', h', X', e', W', st⟩ := stC X hx hZ eT A (inb_of S hj) (g := mkF m pc Ls (.int x :: .int j :: .ref a :: rest)) rfl rfl hd
  exact Go.of st (kk T' h' X' e' W' (Arv.set A q S M H G (fits_nar_char _) W' _ rfl hi))
theorem Go.newarr (X : Stand p l e R s m args below meth c T locs cells slots) (hx : p.tables.exec = Jvm.exec) (hZ : Z.Warmed39 s.vm) {aty : ArrayType} (w : (Cond.arrayClass (newarray.typeOf aty)).before a0 Z = true) (eT : T.heap = h) (cap : Nat) (hn : ¬ z < 0) (hcap : z.toNatClampNeg = cap) (hb : cap * 8 ≤ 536870912) (hc : cells + 1 ≤ R.cells) (hl : slots + cap ≤ R.slots) (hd : decode c.code pc = .ok (.newarray aty, 2))
    (kk : ∀ T' h' b k, b = h.size → Stand p l e R s m args below meth c T' locs (cells + 1) (slots + cap) → T'.heap = h' → Ext h h' → Arv Z h' b k (newarray.typeOf aty) z (List.replicate cap (defaultValue (newarray.typeOf aty))) (defaultValue (newarray.typeOf aty)) → Go p e below Fi T' (mkF m (pc + 2) Ls (.ref b :: rest))) : Go p e below Fi T (mkF m pc Ls (.int z :: rest)) := by
  obtain ⟨T', h', kA, X', e', E', A', st⟩ := newP X hx hZ w eT (g := mkF m pc Ls (.int z :: rest)) rfl hd rfl hn (cap := cap) (Nat.le_of_eq hcap) hb hc hl
  exact Go.of st (kk T' h' _ kA rfl X' e' E' ((Arv.new A' hn).pad (pad_rep [] _ cap)))
theorem Go.newarrE (X : Stand p l e R s m args below meth c T locs cells slots) (hx : p.tables.exec = Jvm.exec) (hZ : Z.Warmed39 s.vm) {aty : ArrayType} {ad : String} (had : "[" ++ (newarray.typeOf aty).toString = ad) (w : (Cond.arrayClass (newarray.typeOf aty)).before a0 Z = true) (eT : T.heap = h) (cap : Nat) (hn : ¬ z < 0) (hcap : z.toNatClampNeg = cap) (hb : cap * 8 ≤ 536870912) (hc : cells + 1 ≤ R.cells) (hl : slots + cap ≤ R.slots) (hd : decode c.code pc = .ok (.newarray aty, 2))
    (kk : ∀ T' h' b k, b = h.size → Stand p l e R s m args below meth c T' locs (cells + 1) (slots + cap) → T'.heap = h' → Ext h h' → Arv Z h' b k (newarray.typeOf aty) z (List.replicate cap (defaultValue (newarray.typeOf aty))) (defaultValue (newarray.typeOf aty)) → Exa Z h' b ad → Go p e below Fi T' (mkF m (pc + 2) Ls (.ref b :: rest))) : Go p e below Fi T (mkF m pc Ls (.int z :: rest)) := by
  obtain ⟨T', h', kA, X', e', E', A', EA, st⟩ := newPE X hx hZ w eT (g := mkF m pc Ls (.int z :: rest)) rfl hd rfl hn (cap := cap) (Nat.le_of_eq hcap) hb hc hl had
  exact Go.of st (kk T' h' _ kA rfl X' e' E' ((Arv.new A' hn).pad (pad_rep [] _ cap)) EA)
theorem Go.clone (X : Stand p l e R s m args below meth c T locs cells slots) (hx : p.tables.exec = Jvm.exec) (hZ : Z.Warmed39 s.vm) {ad : String} (hown : s.vm.findClass own = some m.cls)
    (w1 : (Cond.methodLink own index ⟨ad, "clone", "()Ljava/lang/Object;"⟩).before a0 Z = true) (w2 : (Cond.sameMethod ad "java/lang/Object" "clone" "()Ljava/lang/Object;").before a0 Z = true) (w3 : (Cond.native ⟨"java/lang/Object", "clone", "()Ljava/lang/Object;"⟩).before a0 Z = true)
    (w4 : (Cond.instanceMethod ⟨"java/lang/Object", "clone", "()Ljava/lang/Object;"⟩).before a0 Z = true) (w5 : (Cond.selects ad ⟨ad, "clone", "()Ljava/lang/Object;"⟩ ⟨"java/lang/Object", "clone", "()Ljava/lang/Object;"⟩).before a0 Z = true) (w6 : (Cond.castable ad "java/lang/Cloneable").before a0 Z = true)
    (eT : T.heap = h) (F : Arv Z h a k ty z vs dv) (E : Exa Z h a ad) (hsize : Ls.size = c.maxLocals) (hd : decode c.code pc = .ok (.invokevirtual index, 3)) (hf : 1 ≤ R.frames) {W cap : Nat} (hW : (rest.map fun v => v.category).sum ≤ W) (hl : W + 14 ≤ R.locals) (hcap : z.toNatClampNeg ≤ cap) (hc : cells + 1 ≤ R.cells) (hsl : slots + cap ≤ R.slots)
    (kk : ∀ T' h' b, b = h.size → Stand p l e R s m args below meth c T' locs (cells + 1) (slots + cap) → T'.heap = h' → Ext h h' → Arv Z h' b k ty z vs dv → Exa Z h' b ad → Go p e below Fi T' (mkF m (pc + 3) Ls (.ref b :: rest))) : Go p e below Fi T (mkF m pc Ls (.ref a :: rest)) := by
  obtain ⟨cl, A, q1, S, q3, H, G⟩ := F
  have FC : FitC Z cl := fitC_of A fun i hi v hv => by rw [H i hi] at hv; cases hv; exact G i hi
  obtain ⟨T', h', X', e', ex, A', E', st⟩ := cloneA X hx hZ hown w1 w2 w3 w4 w5 w6 eT A E FC (g := mkF m pc Ls (.ref a :: rest)) rfl hsize rfl hd hf (by show 2 * 0 + _ ≤ W; omega) hl (by rw [S]; exact hcap) hc hsl
  exact Go.of st (kk T' h' _ rfl X' e' ex ⟨cloneOf cl, A', q1, S, q3, H, G⟩ E')
theorem Go.castTo (X : Stand p l e R s m args below meth c T locs cells slots) (hx : p.tables.exec = Jvm.exec) (hZ : Z.Warmed39 s.vm) (hown : s.vm.findClass own = some m.cls) {K : String} (w : (Cond.classLink own index K).before a0 Z = true) (eT : T.heap = h) (I : Ins Z h a K true) (hd : decode c.code pc = .ok (.checkcast index, 3))
    (kk : ∀ T', Stand p l e R s m args below meth c T' locs cells slots → T'.heap = h → Go p e below Fi T' (mkF m (pc + 3) Ls (.ref a :: rest))) : Go p e below Fi T (mkF m pc Ls (.ref a :: rest)) := by
  obtain ⟨T', X', e', st⟩ := castY X hx hZ hown w eT I (g := mkF m pc Ls (.ref a :: rest)) rfl rfl hd
  exact Go.of st (kk T' X' e')
theorem Go.new (X : Stand p l e R s m args below meth c T locs cells slots) (hx : p.tables.exec = Jvm.exec) (hZ : Z.Warmed39 s.vm) (hown : s.vm.findClass own = some m.cls) (w : (Cond.classLink own index C).before a0 Z = true) (wi : (Cond.instantiable C nn).before a0 Z = true) (wz : (Cond.initialized C).before a0 Z = true) (eT : T.heap = h) (hd : decode c.code pc = .ok (.new index, 3)) (hc : cells + 1 ≤ R.cells) (hl : slots + nn ≤ R.slots)
    (kk : ∀ T' h' b, b = h.size → Stand p l e R s m args below meth c T' locs (cells + 1) (slots + nn) → T'.heap = h' → Ext h h' → Exa Z h' b C → (∀ {O nm d : String} {ty : FieldType}, Laid Z a0 C O nm d → parseFieldDescriptor d = some ty → Fld Z h' b O nm d (defaultValue ty)) → Go p e below Fi T' (mkF m (pc + 3) Ls (.ref b :: st))) : Go p e below Fi T (mkF m pc Ls st) := by
  obtain ⟨T', h', X', e', E', A', D', -, stp⟩ := newO X hx hZ hown w wi wz eT (g := mkF m pc Ls st) rfl hd hc hl
  exact Go.of stp (kk T' h' _ rfl X' e' E' A' D')
theorem Go.getf (X : Stand p l e R s m args below meth c T locs cells slots) (hx : p.tables.exec = Jvm.exec) (hZ : Z.Warmed39 s.vm) (hown : s.vm.findClass own = some m.cls) {R0 : String} (w : (Cond.fieldLink own index R0 n d).before a0 Z = true) (via : Via Z R0 O n d) (eT : T.heap = h) (F : Fld Z h a O n d v) (hd : decode c.code pc = .ok (.getfield index, 3))
    (kk : ∀ T', Stand p l e R s m args below meth c T' locs cells slots → T'.heap = h → Go p e below Fi T' (mkF m (pc + 3) Ls (v :: rest))) : Go p e below Fi T (mkF m pc Ls (.ref a :: rest)) := by
  obtain ⟨T', X', e', st⟩ := getF X hx hZ hown (host := "") (Or.inl w) via eT F (g := mkF m pc Ls (.ref a :: rest)) rfl rfl hd
  exact Go.of st (kk T' X' e')
theorem Go.gets (X : Stand p l e R s m args below meth c T locs cells slots) (hx : p.tables.exec = Jvm.exec) (hZ : Z.Warmed39 s.vm) (hown : s.vm.findClass own = some m.cls) {R0 : String} (w : (Cond.fieldLink own index R0 n d).before a0 Z = true) (via : Via Z R0 O n d) (eT : T.heap = h) (F : Sta Z h O n d v) (hd : decode c.code pc = .ok (.getstatic index, 3))
    (kk : ∀ T', Stand p l e R s m args below meth c T' locs cells slots → T'.heap = h → Go p e below Fi T' (mkF m (pc + 3) Ls (v :: st))) : Go p e below Fi T (mkF m pc Ls st) := by
  obtain ⟨T', X', e', stp⟩ := getS2 X hx hZ hown (host := "") (Or.inl w) via eT F (g := mkF m pc Ls st) rfl hd
  exact Go.of stp (kk T' X' e')
theorem Go.putf (X : Stand p l e R s m args below meth c T locs cells slots) (hx : p.tables.exec = Jvm.exec) (hZ : Z.Warmed39 s.vm) (hown : s.vm.findClass own = some m.cls) {R0 : String} (w : (Cond.fieldLink own index R0 n d).before a0 Z = true) (via : Via Z R0 O n d) (eT : T.heap = h) {old : Value} (F : Fld Z h a O n d old) (E : Exa Z h a C) (L : (Cond.lays C O n d).before a0 Z = true ∨ ((Cond.laysFinal C O n d).before a0 Z = true ∧ own = O ∧ meth.name = "<init>")) (wi : (Cond.instantiable C nn).before a0 Z = true) (hty : parseFieldDescriptor d = some ty) {v' : Value} (hn : narrow ty v = v') (hf : fits ty v' = true) (hd : decode c.code pc = .ok (.putfield index, 3))
    (kk : ∀ T' h', Stand p l e R s m args below meth c T' (locs ++ [⟨a, slotOf Z O n d⟩]) cells slots → T'.heap = h' → Wr h h' a (slotOf Z O n d) v' → Fld Z h' a O n d v' → Exa Z h' a C → Go p e below Fi T' (mkF m (pc + 3) Ls rest)) : Go p e below Fi T (mkF m pc Ls (v :: .ref a :: rest)) := by
  obtain ⟨T', h', X', e', W', st⟩ := putFN X hx hZ hown w via eT F E L wi hty hn hf (g := mkF m pc Ls (v :: .ref a :: rest)) rfl rfl hd
  exact Go.of st (kk T' h' X' e' W' (F.same W') (E.wr W'))
theorem Go.initObj (X : Stand p l e R s m args below meth c T locs cells slots) (hx : p.tables.exec = Jvm.exec) (hZ : Z.Warmed39 s.vm) (hown : s.vm.findClass own = some m.cls) (w1 : (Cond.methodLink own index Lib.objectInit).before a0 Z = true) (w2 : (Cond.instanceMethod Lib.objectInit).before a0 Z = true) (w3 : (Cond.code Lib.objectInit ⟨#[0xb1]⟩ 1 none).before a0 Z = true) (eT : T.heap = h) (hsize : Ls.size = c.maxLocals) (hd : decode c.code pc = .ok (.invokespecial index, 3)) (hf : 1 ≤ R.frames) {W : Nat} (hW : (rest.map fun v => v.category).sum ≤ W) (hl : W + 12 ≤ R.locals)
    (kk : ∀ T', Stand p l e R s m args below meth c T' locs cells slots → T'.heap = h → Go p e below Fi T' (mkF m (pc + 3) Ls rest)) : Go p e below Fi T (mkF m pc Ls (.ref a :: rest)) := by
  obtain ⟨T', X', e', st⟩ := initO X hx hZ hown w1 w2 w3 eT (g := mkF m pc Ls (.ref a :: rest)) rfl hsize rfl hd hf (W := W) (by show 2 * 0 + _ ≤ _; omega) hl
  exact Go.of st (kk T' X' e')
end Heaping
end Jvm.RoadKit
namespace Jvm.Pilot.@@N@@
open Jvm Jvm.ClassFile Sem Op Lib Jvm.Free Jvm.Stand Jvm.LawKit Jvm.RoadKit Bundle Jvm.Pilot.@@N@@.Jvm.D
def own_mark (c0 c1 c2 n : Int32) : Int32 := if n < 3 then 0 else if c0 = -17 then if c1 = -69 then if c2 = -65 then 3 else 0 else 0 else 0
theorem own_byte (x : Int32) : nar .byte x.toInt8.toInt32 = x.toInt8.toInt32 := by
  show (x.toInt8.toInt32).toInt8.toInt32 = _
  rw [Int8.toInt8_toInt32]
theorem own_byteIf {P : Prop} [Decidable P] {c x k : Int32} (h : c = if P then x.toInt8.toInt32 else k) (hk : nar .byte k = k) : nar .byte c = c := by
  subst h; split
  · exact own_byte _
  · exact hk
theorem own_len {args : Array Value} {s : State} {t : Term} {a : Addr} {cl : Cell} {ty : FieldType} {k : Int32} (et : t.eval args s none [] s = some (.ref a)) (A : Arr s s.heap a cl ty) (h : (Cond.eq (Term.length t) (Term.int k)).value args s none s [] = some true) : cl.slots.size < 2 ^ 31 ∧ cl.slots.size.toInt32 = k := by
  have ha : s.arrayAt? a = some cl := A.fin (Vm.Alike.refl _)
  by_cases hl : cl.slots.size < 2 ^ 31
  · refine ⟨hl, ?_⟩
    have e1 : (Term.length t).eval args s none [] s = some (.int cl.slots.size.toInt32) := len_f et ha hl
    exact of_decide_eq_true (Option.some.inj ((Cond.eq_ints e1 (Term.int_eval k)).symm.trans h))
  · exfalso
    have e1 : (Term.length t).eval args s none [] s = none := by
      simp [Term.eval, et]
      intro c hc
      cases ha.symm.trans hc
      omega
    simp [Cond.value, e1] at h
theorem own_elem {args : Array Value} {s : State} {t : Term} {a : Addr} {cl : Cell} {ty : FieldType} {i k : Int32} (et : t.eval args s none [] s = some (.ref a)) (A : Arr s s.heap a cl ty) (h : (Cond.eq (Term.elem t (Term.int i)) (Term.int k)).value args s none s [] = some true) : cl.slots[i.toNatClampNeg]? = some (.int k) := by
  obtain ⟨x, y, e1, e2, k1, k2⟩ := cmp_v (Or.inl h)
  have := elem_in e1 et rfl A.1
  rw [this.2]
  cases e2
  obtain ⟨z, rfl⟩ := k2
  simp only [Cond.value, e1] at h
  simpa [Term.eval] using h
theorem own_dsc0 : parseMethodDescriptor "([BI)I" = some ⟨[(.array .byte), .int], some .int⟩ := by decide +kernel
theorem own_kd0 : decode prog_283_method_2_code 0 = .ok (.iload_n 1, 1) := by decide +kernel
theorem own_kd1 : decode prog_283_method_2_code 1 = .ok (.getstatic 29, 3) := by decide +kernel
theorem own_kd4 : decode prog_283_method_2_code 4 = .ok (.arraylength, 1) := by decide +kernel
theorem own_kd5 : decode prog_283_method_2_code 5 = .ok (.if_icmp .ge 5, 3) := by decide +kernel
theorem own_kd8 : decode prog_283_method_2_code 8 = .ok (.iconst 0, 1) := by decide +kernel
theorem own_kd9 : decode prog_283_method_2_code 9 = .ok (.ireturn, 1) := by decide +kernel
theorem own_kd10 : decode prog_283_method_2_code 10 = .ok (.iconst 0, 1) := by decide +kernel
theorem own_kd11 : decode prog_283_method_2_code 11 = .ok (.istore_n 2, 1) := by decide +kernel
theorem own_kd12 : decode prog_283_method_2_code 12 = .ok (.iload_n 2, 1) := by decide +kernel
theorem own_kd13 : decode prog_283_method_2_code 13 = .ok (.getstatic 29, 3) := by decide +kernel
theorem own_kd16 : decode prog_283_method_2_code 16 = .ok (.arraylength, 1) := by decide +kernel
theorem own_kd17 : decode prog_283_method_2_code 17 = .ok (.if_icmp .ge 22, 3) := by decide +kernel
theorem own_kd20 : decode prog_283_method_2_code 20 = .ok (.aload_n 0, 1) := by decide +kernel
theorem own_kd21 : decode prog_283_method_2_code 21 = .ok (.iload_n 2, 1) := by decide +kernel
theorem own_kd22 : decode prog_283_method_2_code 22 = .ok (.baload, 1) := by decide +kernel
theorem own_kd23 : decode prog_283_method_2_code 23 = .ok (.getstatic 29, 3) := by decide +kernel
theorem own_kd26 : decode prog_283_method_2_code 26 = .ok (.iload_n 2, 1) := by decide +kernel
theorem own_kd27 : decode prog_283_method_2_code 27 = .ok (.baload, 1) := by decide +kernel
theorem own_kd28 : decode prog_283_method_2_code 28 = .ok (.if_icmp .eq 5, 3) := by decide +kernel
theorem own_kd31 : decode prog_283_method_2_code 31 = .ok (.iconst 0, 1) := by decide +kernel
theorem own_kd32 : decode prog_283_method_2_code 32 = .ok (.ireturn, 1) := by decide +kernel
theorem own_kd33 : decode prog_283_method_2_code 33 = .ok (.iinc 2 1, 3) := by decide +kernel
theorem own_kd36 : decode prog_283_method_2_code 36 = .ok (.goto (-24), 3) := by decide +kernel
theorem own_kd39 : decode prog_283_method_2_code 39 = .ok (.getstatic 29, 3) := by decide +kernel
theorem own_kd42 : decode prog_283_method_2_code 42 = .ok (.arraylength, 1) := by decide +kernel
theorem own_kd43 : decode prog_283_method_2_code 43 = .ok (.ireturn, 1) := by decide +kernel
set_option maxRecDepth 65536 in
set_option maxHeartbeats 40000000 in
theorem own_rmK (l : Launch) (Z : State) (a0 : Array Value) (hw : ∀ d ∈ tables_1, d.before a0 Z = true) (a : Addr) (n c0 c1 c2 c3 : Int32) (ka kb : ClassId) (bm : Addr) (h0 : Heap) (VA : Arv Z h0 a ka .byte 4 [.int c0, .int c1, .int c2, .int c3] (.int (0 : Int32))) (VB : Arv Z h0 bm kb .byte 3 [.int (-17), .int (-69), .int (-65)] (.int (0 : Int32))) (SB : Sta Z h0 "com/example/joulepath/joulepath/trace/Utf8Text" "BYTE_ORDER_MARK" "[B" (.ref bm)) :
    MetFree l (⟨"com/example/joulepath/joulepath/trace/Utf8Text", "markLength", "([BI)I"⟩ : MethodName) (head1 [Jvm.Cond.code (⟨"com/example/joulepath/joulepath/trace/Utf8Text", "markLength", "([BI)I"⟩ : MethodName) prog_283_method_2_code 3 (some .int)] ({ frames := 0, cells := 0, slots := 0, locals := 0 } : Room)) (fun aa U => aa = #[(.ref a), (.int n)] ∧ Z.Warmed39 U.vm ∧ U.heap = h0) (fun _ _ _ _ _ => True) (fun _ U o U' => ∃ v L, o = .returned v ∧ (PQ h0 (some (.int (own_mark c0 c1 c2 n)))) v U'.heap L ∧ FrameEnd U o U' L ({ frames := 0, cells := 0, slots := 0, locals := 0 } : Room).cells ({ frames := 0, cells := 0, slots := 0, locals := 0 } : Room).slots) := by
  refine goBody (y := (⟨"com/example/joulepath/joulepath/trace/Utf8Text", "markLength", "([BI)I"⟩ : MethodName)) (Q := PQ h0 (some (.int (own_mark c0 c1 c2 n)))) (plainFor_of_name (by first | (simp [plainName, overriddenIn]; done) | decide +kernel)) ?_
  intro p e s m below meth c T0 hx hZ hby hml hown hnm hret hlk X0 e0
  have hown : s.vm.findClass "com/example/joulepath/joulepath/trace/Utf8Text" = some m.cls := hown
  refine Go.cast (g' := mkF m 0 #[.val (.ref a), .val (.int n), .unset] []) (by first | (simp [entryFrame, mkF, argsToLocals, Value.category]; done) | rfl) ?_
  show Go p e below _ T0 (mkF m 0 #[.val (.ref a), .val (.int n), .unset] [])
  refine Go.of (fun _ k => XS.iloadN X0.here hx rfl (hb hby own_kd0) rfl k) ?_
  show Go p e below _ T0 (mkF m 1 #[.val (.ref a), .val (.int n), .unset] [(.int n)])
  refine Go.gets X0 hx hZ hown (hw _ (List.mem_of_getElem? (i := 6) rfl)) Via.refl e0 SB (hb hby own_kd1) fun T1 X1 e1 => ?_
  show Go p e below _ T1 (mkF m 4 #[.val (.ref a), .val (.int n), .unset] [(.ref bm), (.int n)])
  refine Go.len X1 hx hZ e1 VB (hb hby own_kd4) ?_
  show Go p e below _ T1 (mkF m 5 #[.val (.ref a), .val (.int n), .unset] [(.int (3 : Int32)), (.int n)])
  by_cases hc5 : n < (3 : Int32)
  ·
    refine Go.of (fun _ k => XS.icmpNo X1.here hx rfl (hb hby own_kd5) rfl (tlt hc5).2.1 k) ?_
    show Go p e below _ T1 (mkF m 8 #[.val (.ref a), .val (.int n), .unset] [])
    refine Go.of (fun _ k => XS.iconst X1.here hx rfl (hb hby own_kd8) k) ?_
    show Go p e below _ T1 (mkF m 9 #[.val (.ref a), .val (.int n), .unset] [(.int (0 : Int32))])
    exact Go.retI X1 hx hlk hret (hb hby own_kd9) (by decide) (by decide) ⟨congrArg (fun z => some (Value.int z)) (show (0 : Int32) = own_mark c0 c1 c2 n by simp [own_mark, hc5]), rfl, e1⟩
  ·
    refine Go.of (fun _ k => XS.icmpYes X1.here hx rfl (pc0 := 5) (pc' := 10) rfl (hb hby own_kd5) rfl (flt hc5).2.1 (by decide) (by decide) k) ?_
    show Go p e below _ T1 (mkF m 10 #[.val (.ref a), .val (.int n), .unset] [])
    refine Go.of (fun _ k => XS.iconst X1.here hx rfl (hb hby own_kd10) k) ?_
    show Go p e below _ T1 (mkF m 11 #[.val (.ref a), .val (.int n), .unset] [(.int (0 : Int32))])
    refine Go.of (fun _ k => XS.istoreN X1.here hx rfl (hb hby own_kd11) rfl (l' := #[.val (.ref a), .val (.int n), .val (.int (0 : Int32))]) rfl k) ?_
    show Go p e below _ T1 (mkF m 12 #[.val (.ref a), .val (.int n), .val (.int (0 : Int32))] [])
    refine Go.of (fun _ k => XS.iloadN X1.here hx rfl (hb hby own_kd12) rfl k) ?_
    show Go p e below _ T1 (mkF m 13 #[.val (.ref a), .val (.int n), .val (.int (0 : Int32))] [(.int (0 : Int32))])
    refine Go.gets X1 hx hZ hown (hw _ (List.mem_of_getElem? (i := 6) rfl)) Via.refl e1 SB (hb hby own_kd13) fun T2 X2 e2 => ?_
    show Go p e below _ T2 (mkF m 16 #[.val (.ref a), .val (.int n), .val (.int (0 : Int32))] [(.ref bm), (.int (0 : Int32))])
    refine Go.len X2 hx hZ e2 VB (hb hby own_kd16) ?_
    show Go p e below _ T2 (mkF m 17 #[.val (.ref a), .val (.int n), .val (.int (0 : Int32))] [(.int (3 : Int32)), (.int (0 : Int32))])
    refine Go.of (fun _ k => XS.icmpNo X2.here hx rfl (hb hby own_kd17) rfl (tlt (by decide : (0 : Int32) < (3 : Int32))).2.1 k) ?_
    show Go p e below _ T2 (mkF m 20 #[.val (.ref a), .val (.int n), .val (.int (0 : Int32))] [])
    refine Go.of (fun _ k => XS.aloadN X2.here hx rfl (hb hby own_kd20) rfl rfl k) ?_
    show Go p e below _ T2 (mkF m 21 #[.val (.ref a), .val (.int n), .val (.int (0 : Int32))] [(.ref a)])
    refine Go.of (fun _ k => XS.iloadN X2.here hx rfl (hb hby own_kd21) rfl k) ?_
    show Go p e below _ T2 (mkF m 22 #[.val (.ref a), .val (.int n), .val (.int (0 : Int32))] [(.int (0 : Int32)), (.ref a)])
    refine Go.baload X2 hx hZ e2 VA ⟨by decide, by decide⟩ (v := (.int c0)) rfl (hb hby own_kd22) ?_
    show Go p e below _ T2 (mkF m 23 #[.val (.ref a), .val (.int n), .val (.int (0 : Int32))] [(.int c0)])
    refine Go.gets X2 hx hZ hown (hw _ (List.mem_of_getElem? (i := 6) rfl)) Via.refl e2 SB (hb hby own_kd23) fun T3 X3 e3 => ?_
    show Go p e below _ T3 (mkF m 26 #[.val (.ref a), .val (.int n), .val (.int (0 : Int32))] [(.ref bm), (.int c0)])
    refine Go.of (fun _ k => XS.iloadN X3.here hx rfl (hb hby own_kd26) rfl k) ?_
    show Go p e below _ T3 (mkF m 27 #[.val (.ref a), .val (.int n), .val (.int (0 : Int32))] [(.int (0 : Int32)), (.ref bm), (.int c0)])
    refine Go.baload X3 hx hZ e3 VB ⟨by decide, by decide⟩ (v := (.int (-17 : Int32))) rfl (hb hby own_kd27) ?_
    show Go p e below _ T3 (mkF m 28 #[.val (.ref a), .val (.int n), .val (.int (0 : Int32))] [(.int (-17 : Int32)), (.int c0)])
    by_cases hc28 : c0 = (-17 : Int32)
    ·
      refine Go.of (fun _ k => XS.icmpYes X3.here hx rfl (pc0 := 28) (pc' := 33) rfl (hb hby own_kd28) rfl (teq hc28).1 (by decide) (by decide) k) ?_
      show Go p e below _ T3 (mkF m 33 #[.val (.ref a), .val (.int n), .val (.int (0 : Int32))] [])
      refine Go.of (fun _ k => XS.iinc X3.here hx rfl (hb hby own_kd33) rfl (l' := #[.val (.ref a), .val (.int n), .val (.int (1 : Int32))]) rfl k) ?_
      show Go p e below _ T3 (mkF m 36 #[.val (.ref a), .val (.int n), .val (.int (1 : Int32))] [])
      refine Go.of (fun _ k => XS.goto X3.here hx rfl (pc0 := 36) (pc' := 12) rfl (hb hby own_kd36) (by decide) (by decide) k) ?_
      show Go p e below _ T3 (mkF m 12 #[.val (.ref a), .val (.int n), .val (.int (1 : Int32))] [])
      refine Go.of (fun _ k => XS.iloadN X3.here hx rfl (hb hby own_kd12) rfl k) ?_
      show Go p e below _ T3 (mkF m 13 #[.val (.ref a), .val (.int n), .val (.int (1 : Int32))] [(.int (1 : Int32))])
      refine Go.gets X3 hx hZ hown (hw _ (List.mem_of_getElem? (i := 6) rfl)) Via.refl e3 SB (hb hby own_kd13) fun T4 X4 e4 => ?_
      show Go p e below _ T4 (mkF m 16 #[.val (.ref a), .val (.int n), .val (.int (1 : Int32))] [(.ref bm), (.int (1 : Int32))])
      refine Go.len X4 hx hZ e4 VB (hb hby own_kd16) ?_
      show Go p e below _ T4 (mkF m 17 #[.val (.ref a), .val (.int n), .val (.int (1 : Int32))] [(.int (3 : Int32)), (.int (1 : Int32))])
      refine Go.of (fun _ k => XS.icmpNo X4.here hx rfl (hb hby own_kd17) rfl (tlt (by decide : (1 : Int32) < (3 : Int32))).2.1 k) ?_
      show Go p e below _ T4 (mkF m 20 #[.val (.ref a), .val (.int n), .val (.int (1 : Int32))] [])
      refine Go.of (fun _ k => XS.aloadN X4.here hx rfl (hb hby own_kd20) rfl rfl k) ?_
      show Go p e below _ T4 (mkF m 21 #[.val (.ref a), .val (.int n), .val (.int (1 : Int32))] [(.ref a)])
      refine Go.of (fun _ k => XS.iloadN X4.here hx rfl (hb hby own_kd21) rfl k) ?_
      show Go p e below _ T4 (mkF m 22 #[.val (.ref a), .val (.int n), .val (.int (1 : Int32))] [(.int (1 : Int32)), (.ref a)])
      refine Go.baload X4 hx hZ e4 VA ⟨by decide, by decide⟩ (v := (.int c1)) rfl (hb hby own_kd22) ?_
      show Go p e below _ T4 (mkF m 23 #[.val (.ref a), .val (.int n), .val (.int (1 : Int32))] [(.int c1)])
      refine Go.gets X4 hx hZ hown (hw _ (List.mem_of_getElem? (i := 6) rfl)) Via.refl e4 SB (hb hby own_kd23) fun T5 X5 e5 => ?_
      show Go p e below _ T5 (mkF m 26 #[.val (.ref a), .val (.int n), .val (.int (1 : Int32))] [(.ref bm), (.int c1)])
      refine Go.of (fun _ k => XS.iloadN X5.here hx rfl (hb hby own_kd26) rfl k) ?_
      show Go p e below _ T5 (mkF m 27 #[.val (.ref a), .val (.int n), .val (.int (1 : Int32))] [(.int (1 : Int32)), (.ref bm), (.int c1)])
      refine Go.baload X5 hx hZ e5 VB ⟨by decide, by decide⟩ (v := (.int (-69 : Int32))) rfl (hb hby own_kd27) ?_
      show Go p e below _ T5 (mkF m 28 #[.val (.ref a), .val (.int n), .val (.int (1 : Int32))] [(.int (-69 : Int32)), (.int c1)])
      by_cases hc28_2 : c1 = (-69 : Int32)
      ·
        refine Go.of (fun _ k => XS.icmpYes X5.here hx rfl (pc0 := 28) (pc' := 33) rfl (hb hby own_kd28) rfl (teq hc28_2).1 (by decide) (by decide) k) ?_
        show Go p e below _ T5 (mkF m 33 #[.val (.ref a), .val (.int n), .val (.int (1 : Int32))] [])
        refine Go.of (fun _ k => XS.iinc X5.here hx rfl (hb hby own_kd33) rfl (l' := #[.val (.ref a), .val (.int n), .val (.int (2 : Int32))]) rfl k) ?_
        show Go p e below _ T5 (mkF m 36 #[.val (.ref a), .val (.int n), .val (.int (2 : Int32))] [])
        refine Go.of (fun _ k => XS.goto X5.here hx rfl (pc0 := 36) (pc' := 12) rfl (hb hby own_kd36) (by decide) (by decide) k) ?_
        show Go p e below _ T5 (mkF m 12 #[.val (.ref a), .val (.int n), .val (.int (2 : Int32))] [])
        refine Go.of (fun _ k => XS.iloadN X5.here hx rfl (hb hby own_kd12) rfl k) ?_
        show Go p e below _ T5 (mkF m 13 #[.val (.ref a), .val (.int n), .val (.int (2 : Int32))] [(.int (2 : Int32))])
        refine Go.gets X5 hx hZ hown (hw _ (List.mem_of_getElem? (i := 6) rfl)) Via.refl e5 SB (hb hby own_kd13) fun T6 X6 e6 => ?_
        show Go p e below _ T6 (mkF m 16 #[.val (.ref a), .val (.int n), .val (.int (2 : Int32))] [(.ref bm), (.int (2 : Int32))])
        refine Go.len X6 hx hZ e6 VB (hb hby own_kd16) ?_
        show Go p e below _ T6 (mkF m 17 #[.val (.ref a), .val (.int n), .val (.int (2 : Int32))] [(.int (3 : Int32)), (.int (2 : Int32))])
        refine Go.of (fun _ k => XS.icmpNo X6.here hx rfl (hb hby own_kd17) rfl (tlt (by decide : (2 : Int32) < (3 : Int32))).2.1 k) ?_
        show Go p e below _ T6 (mkF m 20 #[.val (.ref a), .val (.int n), .val (.int (2 : Int32))] [])
        refine Go.of (fun _ k => XS.aloadN X6.here hx rfl (hb hby own_kd20) rfl rfl k) ?_
        show Go p e below _ T6 (mkF m 21 #[.val (.ref a), .val (.int n), .val (.int (2 : Int32))] [(.ref a)])
        refine Go.of (fun _ k => XS.iloadN X6.here hx rfl (hb hby own_kd21) rfl k) ?_
        show Go p e below _ T6 (mkF m 22 #[.val (.ref a), .val (.int n), .val (.int (2 : Int32))] [(.int (2 : Int32)), (.ref a)])
        refine Go.baload X6 hx hZ e6 VA ⟨by decide, by decide⟩ (v := (.int c2)) rfl (hb hby own_kd22) ?_
        show Go p e below _ T6 (mkF m 23 #[.val (.ref a), .val (.int n), .val (.int (2 : Int32))] [(.int c2)])
        refine Go.gets X6 hx hZ hown (hw _ (List.mem_of_getElem? (i := 6) rfl)) Via.refl e6 SB (hb hby own_kd23) fun T7 X7 e7 => ?_
        show Go p e below _ T7 (mkF m 26 #[.val (.ref a), .val (.int n), .val (.int (2 : Int32))] [(.ref bm), (.int c2)])
        refine Go.of (fun _ k => XS.iloadN X7.here hx rfl (hb hby own_kd26) rfl k) ?_
        show Go p e below _ T7 (mkF m 27 #[.val (.ref a), .val (.int n), .val (.int (2 : Int32))] [(.int (2 : Int32)), (.ref bm), (.int c2)])
        refine Go.baload X7 hx hZ e7 VB ⟨by decide, by decide⟩ (v := (.int (-65 : Int32))) rfl (hb hby own_kd27) ?_
        show Go p e below _ T7 (mkF m 28 #[.val (.ref a), .val (.int n), .val (.int (2 : Int32))] [(.int (-65 : Int32)), (.int c2)])
        by_cases hc28_3 : c2 = (-65 : Int32)
        ·
          refine Go.of (fun _ k => XS.icmpYes X7.here hx rfl (pc0 := 28) (pc' := 33) rfl (hb hby own_kd28) rfl (teq hc28_3).1 (by decide) (by decide) k) ?_
          show Go p e below _ T7 (mkF m 33 #[.val (.ref a), .val (.int n), .val (.int (2 : Int32))] [])
          refine Go.of (fun _ k => XS.iinc X7.here hx rfl (hb hby own_kd33) rfl (l' := #[.val (.ref a), .val (.int n), .val (.int (3 : Int32))]) rfl k) ?_
          show Go p e below _ T7 (mkF m 36 #[.val (.ref a), .val (.int n), .val (.int (3 : Int32))] [])
          refine Go.of (fun _ k => XS.goto X7.here hx rfl (pc0 := 36) (pc' := 12) rfl (hb hby own_kd36) (by decide) (by decide) k) ?_
          show Go p e below _ T7 (mkF m 12 #[.val (.ref a), .val (.int n), .val (.int (3 : Int32))] [])
          refine Go.of (fun _ k => XS.iloadN X7.here hx rfl (hb hby own_kd12) rfl k) ?_
          show Go p e below _ T7 (mkF m 13 #[.val (.ref a), .val (.int n), .val (.int (3 : Int32))] [(.int (3 : Int32))])
          refine Go.gets X7 hx hZ hown (hw _ (List.mem_of_getElem? (i := 6) rfl)) Via.refl e7 SB (hb hby own_kd13) fun T8 X8 e8 => ?_
          show Go p e below _ T8 (mkF m 16 #[.val (.ref a), .val (.int n), .val (.int (3 : Int32))] [(.ref bm), (.int (3 : Int32))])
          refine Go.len X8 hx hZ e8 VB (hb hby own_kd16) ?_
          show Go p e below _ T8 (mkF m 17 #[.val (.ref a), .val (.int n), .val (.int (3 : Int32))] [(.int (3 : Int32)), (.int (3 : Int32))])
          refine Go.of (fun _ k => XS.icmpYes X8.here hx rfl (pc0 := 17) (pc' := 39) rfl (hb hby own_kd17) rfl (flt (by decide : ¬ ((3 : Int32) < (3 : Int32)))).2.1 (by decide) (by decide) k) ?_
          show Go p e below _ T8 (mkF m 39 #[.val (.ref a), .val (.int n), .val (.int (3 : Int32))] [])
          refine Go.gets X8 hx hZ hown (hw _ (List.mem_of_getElem? (i := 6) rfl)) Via.refl e8 SB (hb hby own_kd39) fun T9 X9 e9 => ?_
          show Go p e below _ T9 (mkF m 42 #[.val (.ref a), .val (.int n), .val (.int (3 : Int32))] [(.ref bm)])
          refine Go.len X9 hx hZ e9 VB (hb hby own_kd42) ?_
          show Go p e below _ T9 (mkF m 43 #[.val (.ref a), .val (.int n), .val (.int (3 : Int32))] [(.int (3 : Int32))])
          exact Go.retI X9 hx hlk hret (hb hby own_kd43) (by decide) (by decide) ⟨congrArg (fun z => some (Value.int z)) (show (3 : Int32) = own_mark c0 c1 c2 n by simp [own_mark, hc5, hc28, hc28_2, hc28_3]), rfl, e9⟩
        ·
          refine Go.of (fun _ k => XS.icmpNo X7.here hx rfl (hb hby own_kd28) rfl (feq hc28_3).1 k) ?_
          show Go p e below _ T7 (mkF m 31 #[.val (.ref a), .val (.int n), .val (.int (2 : Int32))] [])
          refine Go.of (fun _ k => XS.iconst X7.here hx rfl (hb hby own_kd31) k) ?_
          show Go p e below _ T7 (mkF m 32 #[.val (.ref a), .val (.int n), .val (.int (2 : Int32))] [(.int (0 : Int32))])
          exact Go.retI X7 hx hlk hret (hb hby own_kd32) (by decide) (by decide) ⟨congrArg (fun z => some (Value.int z)) (show (0 : Int32) = own_mark c0 c1 c2 n by simp [own_mark, hc5, hc28, hc28_2, hc28_3]), rfl, e7⟩
      ·
        refine Go.of (fun _ k => XS.icmpNo X5.here hx rfl (hb hby own_kd28) rfl (feq hc28_2).1 k) ?_
        show Go p e below _ T5 (mkF m 31 #[.val (.ref a), .val (.int n), .val (.int (1 : Int32))] [])
        refine Go.of (fun _ k => XS.iconst X5.here hx rfl (hb hby own_kd31) k) ?_
        show Go p e below _ T5 (mkF m 32 #[.val (.ref a), .val (.int n), .val (.int (1 : Int32))] [(.int (0 : Int32))])
        exact Go.retI X5 hx hlk hret (hb hby own_kd32) (by decide) (by decide) ⟨congrArg (fun z => some (Value.int z)) (show (0 : Int32) = own_mark c0 c1 c2 n by simp [own_mark, hc5, hc28, hc28_2]), rfl, e5⟩
    ·
      refine Go.of (fun _ k => XS.icmpNo X3.here hx rfl (hb hby own_kd28) rfl (feq hc28).1 k) ?_
      show Go p e below _ T3 (mkF m 31 #[.val (.ref a), .val (.int n), .val (.int (0 : Int32))] [])
      refine Go.of (fun _ k => XS.iconst X3.here hx rfl (hb hby own_kd31) k) ?_
      show Go p e below _ T3 (mkF m 32 #[.val (.ref a), .val (.int n), .val (.int (0 : Int32))] [(.int (0 : Int32))])
      exact Go.retI X3 hx hlk hret (hb hby own_kd32) (by decide) (by decide) ⟨congrArg (fun z => some (Value.int z)) (show (0 : Int32) = own_mark c0 c1 c2 n by simp [own_mark, hc5, hc28]), rfl, e3⟩
set_option maxRecDepth 65536 in
set_option maxHeartbeats 40000000 in
theorem rm0 (l : Launch) (Z : State) (a0 : Array Value) (hw : ∀ d ∈ tables_1, d.before a0 Z = true) (ws : List Jvm.Cond) (x0 x1 x2 x3 x4 x5 : Int32) (kb : ClassId) (bm : Addr) (h0 : Heap) (VB : Arv Z h0 bm kb .byte 3 [.int (-17), .int (-69), .int (-65)] (.int (0 : Int32))) (SB : Sta Z h0 "com/example/joulepath/joulepath/trace/Utf8Text" "BYTE_ORDER_MARK" "[B" (.ref bm)) :
    MetFree l x (head1 (Jvm.Cond.code x code maxLocals ret :: ws) room_1) (fun aa U => aa = #[(.int x0), (.int x1), (.int x2), (.int x3), (.int x4), (.int x5)] ∧ Z.Warmed39 U.vm ∧ U.heap = h0) (fun _ _ _ _ _ => True) (fun _ U o U' => ∃ v L, o = .returned v ∧ (fun v _ L => v = some (.int 1) ∧ Fr h0.size L) v U'.heap L ∧ FrameEnd U o U' L room_1.cells room_1.slots) := by
  refine goBody (y := x) (Q := fun v _ L => v = some (.int 1) ∧ Fr h0.size L) (plainFor_of_name (by first | (simp [plainName, overriddenIn]; done) | decide +kernel)) ?_
  intro p e s m below meth c T0 hx hZ hby hml hown hnm hret hlk X0 e0
  have hown : s.vm.findClass "com/example/joulepath/joulepath/trace/Utf8TextMarkLengthPinLaw" = some m.cls := hown
  have hml : c.maxLocals = 14 := hml
  refine Go.cast (g' := mkF m 0 #[.val (.int x0), .val (.int x1), .val (.int x2), .val (.int x3), .val (.int x4), .val (.int x5), .unset, .unset, .unset, .unset, .unset, .unset, .unset, .unset] []) (by first | (simp [entryFrame, mkF, argsToLocals, Value.category, maxLocals]; done) | rfl) ?_
  show Go p e below _ T0 (mkF m 0 #[.val (.int x0), .val (.int x1), .val (.int x2), .val (.int x3), .val (.int x4), .val (.int x5), .unset, .unset, .unset, .unset, .unset, .unset, .unset, .unset] [])
  refine Go.of (fun _ k => XS.iload X0.here hx rfl (hb hby at_0) rfl k) ?_
  show Go p e below _ T0 (mkF m 2 #[.val (.int x0), .val (.int x1), .val (.int x2), .val (.int x3), .val (.int x4), .val (.int x5), .unset, .unset, .unset, .unset, .unset, .unset, .unset, .unset] [(.int x4)])
  refine Go.of (fun _ k => XS.iconst X0.here hx rfl (hb hby at_2) k) ?_
  show Go p e below _ T0 (mkF m 3 #[.val (.int x0), .val (.int x1), .val (.int x2), .val (.int x3), .val (.int x4), .val (.int x5), .unset, .unset, .unset, .unset, .unset, .unset, .unset, .unset] [(.int (1 : Int32)), (.int x4)])
  refine Go.of (fun _ k => XS.iand X0.here hx rfl (hb hby at_3) rfl k) ?_
  show Go p e below _ T0 (mkF m 4 #[.val (.int x0), .val (.int x1), .val (.int x2), .val (.int x3), .val (.int x4), .val (.int x5), .unset, .unset, .unset, .unset, .unset, .unset, .unset, .unset] [(.int (x4 &&& (1 : Int32)))])
  suffices km4 : ∀ (c0 : Int32), c0 = (if (x4 &&& (1 : Int32)) = (0 : Int32) then (x0.toInt8.toInt32) else (-17 : Int32)) → Go p e below (GoEnd s room_1.cells room_1.slots (fun v _ L => v = some (.int 1) ∧ Fr h0.size L)) T0 (mkF m 14 #[.val (.int x0), .val (.int x1), .val (.int x2), .val (.int x3), .val (.int x4), .val (.int x5), .unset, .unset, .unset, .unset, .unset, .unset, .unset, .unset] [(.int c0)]) by
    by_cases hc4 : (x4 &&& (1 : Int32)) = (0 : Int32)
    ·
      refine Go.of (fun _ k => XS.ifYes X0.here hx rfl (pc0 := 4) (pc' := 12) rfl (hb hby at_4) rfl ((if0 _ _).trans (teq hc4).1) (by decide) (by decide) k) ?_
      show Go p e below _ T0 (mkF m 12 #[.val (.int x0), .val (.int x1), .val (.int x2), .val (.int x3), .val (.int x4), .val (.int x5), .unset, .unset, .unset, .unset, .unset, .unset, .unset, .unset] [])
      refine Go.of (fun _ k => XS.iloadN X0.here hx rfl (hb hby at_12) rfl k) ?_
      show Go p e below _ T0 (mkF m 13 #[.val (.int x0), .val (.int x1), .val (.int x2), .val (.int x3), .val (.int x4), .val (.int x5), .unset, .unset, .unset, .unset, .unset, .unset, .unset, .unset] [(.int x0)])
      refine Go.of (fun _ k => XS.i2b X0.here hx rfl (hb hby at_13) rfl k) ?_
      show Go p e below _ T0 (mkF m 14 #[.val (.int x0), .val (.int x1), .val (.int x2), .val (.int x3), .val (.int x4), .val (.int x5), .unset, .unset, .unset, .unset, .unset, .unset, .unset, .unset] [(.int (x0.toInt8.toInt32))])
      exact km4 _ (if_pos hc4).symm
    ·
      refine Go.of (fun _ k => XS.ifNo X0.here hx rfl (hb hby at_4) rfl ((if0 _ _).trans (feq hc4).1) k) ?_
      show Go p e below _ T0 (mkF m 7 #[.val (.int x0), .val (.int x1), .val (.int x2), .val (.int x3), .val (.int x4), .val (.int x5), .unset, .unset, .unset, .unset, .unset, .unset, .unset, .unset] [])
      refine Go.of (fun _ k => XS.bipush X0.here hx rfl (hb hby at_7) k) ?_
      show Go p e below _ T0 (mkF m 9 #[.val (.int x0), .val (.int x1), .val (.int x2), .val (.int x3), .val (.int x4), .val (.int x5), .unset, .unset, .unset, .unset, .unset, .unset, .unset, .unset] [(.int (-17 : Int32))])
      refine Go.of (fun _ k => XS.goto X0.here hx rfl (pc0 := 9) (pc' := 14) rfl (hb hby at_9) (by decide) (by decide) k) ?_
      show Go p e below _ T0 (mkF m 14 #[.val (.int x0), .val (.int x1), .val (.int x2), .val (.int x3), .val (.int x4), .val (.int x5), .unset, .unset, .unset, .unset, .unset, .unset, .unset, .unset] [(.int (-17 : Int32))])
      exact km4 _ (if_neg hc4).symm
  intro c0 hu_c0
  show Go p e below _ T0 (mkF m 14 #[.val (.int x0), .val (.int x1), .val (.int x2), .val (.int x3), .val (.int x4), .val (.int x5), .unset, .unset, .unset, .unset, .unset, .unset, .unset, .unset] [(.int c0)])
  refine Go.of (fun _ k => XS.istore X0.here hx rfl (hb hby at_14) rfl (l' := #[.val (.int x0), .val (.int x1), .val (.int x2), .val (.int x3), .val (.int x4), .val (.int x5), .val (.int c0), .unset, .unset, .unset, .unset, .unset, .unset, .unset]) rfl k) ?_
  show Go p e below _ T0 (mkF m 16 #[.val (.int x0), .val (.int x1), .val (.int x2), .val (.int x3), .val (.int x4), .val (.int x5), .val (.int c0), .unset, .unset, .unset, .unset, .unset, .unset, .unset] [])
  refine Go.of (fun _ k => XS.iload X0.here hx rfl (hb hby at_16) rfl k) ?_
  show Go p e below _ T0 (mkF m 18 #[.val (.int x0), .val (.int x1), .val (.int x2), .val (.int x3), .val (.int x4), .val (.int x5), .val (.int c0), .unset, .unset, .unset, .unset, .unset, .unset, .unset] [(.int x4)])
  refine Go.of (fun _ k => XS.iconst X0.here hx rfl (hb hby at_18) k) ?_
  show Go p e below _ T0 (mkF m 19 #[.val (.int x0), .val (.int x1), .val (.int x2), .val (.int x3), .val (.int x4), .val (.int x5), .val (.int c0), .unset, .unset, .unset, .unset, .unset, .unset, .unset] [(.int (2 : Int32)), (.int x4)])
  refine Go.of (fun _ k => XS.iand X0.here hx rfl (hb hby at_19) rfl k) ?_
  show Go p e below _ T0 (mkF m 20 #[.val (.int x0), .val (.int x1), .val (.int x2), .val (.int x3), .val (.int x4), .val (.int x5), .val (.int c0), .unset, .unset, .unset, .unset, .unset, .unset, .unset] [(.int (x4 &&& (2 : Int32)))])
  suffices km20 : ∀ (c1 : Int32), c1 = (if (x4 &&& (2 : Int32)) = (0 : Int32) then (x1.toInt8.toInt32) else (-69 : Int32)) → Go p e below (GoEnd s room_1.cells room_1.slots (fun v _ L => v = some (.int 1) ∧ Fr h0.size L)) T0 (mkF m 30 #[.val (.int x0), .val (.int x1), .val (.int x2), .val (.int x3), .val (.int x4), .val (.int x5), .val (.int c0), .unset, .unset, .unset, .unset, .unset, .unset, .unset] [(.int c1)]) by
    by_cases hc20 : (x4 &&& (2 : Int32)) = (0 : Int32)
    ·
      refine Go.of (fun _ k => XS.ifYes X0.here hx rfl (pc0 := 20) (pc' := 28) rfl (hb hby at_20) rfl ((if0 _ _).trans (teq hc20).1) (by decide) (by decide) k) ?_
      show Go p e below _ T0 (mkF m 28 #[.val (.int x0), .val (.int x1), .val (.int x2), .val (.int x3), .val (.int x4), .val (.int x5), .val (.int c0), .unset, .unset, .unset, .unset, .unset, .unset, .unset] [])
      refine Go.of (fun _ k => XS.iloadN X0.here hx rfl (hb hby at_28) rfl k) ?_
      show Go p e below _ T0 (mkF m 29 #[.val (.int x0), .val (.int x1), .val (.int x2), .val (.int x3), .val (.int x4), .val (.int x5), .val (.int c0), .unset, .unset, .unset, .unset, .unset, .unset, .unset] [(.int x1)])
      refine Go.of (fun _ k => XS.i2b X0.here hx rfl (hb hby at_29) rfl k) ?_
      show Go p e below _ T0 (mkF m 30 #[.val (.int x0), .val (.int x1), .val (.int x2), .val (.int x3), .val (.int x4), .val (.int x5), .val (.int c0), .unset, .unset, .unset, .unset, .unset, .unset, .unset] [(.int (x1.toInt8.toInt32))])
      exact km20 _ (if_pos hc20).symm
    ·
      refine Go.of (fun _ k => XS.ifNo X0.here hx rfl (hb hby at_20) rfl ((if0 _ _).trans (feq hc20).1) k) ?_
      show Go p e below _ T0 (mkF m 23 #[.val (.int x0), .val (.int x1), .val (.int x2), .val (.int x3), .val (.int x4), .val (.int x5), .val (.int c0), .unset, .unset, .unset, .unset, .unset, .unset, .unset] [])
      refine Go.of (fun _ k => XS.bipush X0.here hx rfl (hb hby at_23) k) ?_
      show Go p e below _ T0 (mkF m 25 #[.val (.int x0), .val (.int x1), .val (.int x2), .val (.int x3), .val (.int x4), .val (.int x5), .val (.int c0), .unset, .unset, .unset, .unset, .unset, .unset, .unset] [(.int (-69 : Int32))])
      refine Go.of (fun _ k => XS.goto X0.here hx rfl (pc0 := 25) (pc' := 30) rfl (hb hby at_25) (by decide) (by decide) k) ?_
      show Go p e below _ T0 (mkF m 30 #[.val (.int x0), .val (.int x1), .val (.int x2), .val (.int x3), .val (.int x4), .val (.int x5), .val (.int c0), .unset, .unset, .unset, .unset, .unset, .unset, .unset] [(.int (-69 : Int32))])
      exact km20 _ (if_neg hc20).symm
  intro c1 hu_c1
  show Go p e below _ T0 (mkF m 30 #[.val (.int x0), .val (.int x1), .val (.int x2), .val (.int x3), .val (.int x4), .val (.int x5), .val (.int c0), .unset, .unset, .unset, .unset, .unset, .unset, .unset] [(.int c1)])
  refine Go.of (fun _ k => XS.istore X0.here hx rfl (hb hby at_30) rfl (l' := #[.val (.int x0), .val (.int x1), .val (.int x2), .val (.int x3), .val (.int x4), .val (.int x5), .val (.int c0), .val (.int c1), .unset, .unset, .unset, .unset, .unset, .unset]) rfl k) ?_
  show Go p e below _ T0 (mkF m 32 #[.val (.int x0), .val (.int x1), .val (.int x2), .val (.int x3), .val (.int x4), .val (.int x5), .val (.int c0), .val (.int c1), .unset, .unset, .unset, .unset, .unset, .unset] [])
  refine Go.of (fun _ k => XS.iload X0.here hx rfl (hb hby at_32) rfl k) ?_
  show Go p e below _ T0 (mkF m 34 #[.val (.int x0), .val (.int x1), .val (.int x2), .val (.int x3), .val (.int x4), .val (.int x5), .val (.int c0), .val (.int c1), .unset, .unset, .unset, .unset, .unset, .unset] [(.int x4)])
  refine Go.of (fun _ k => XS.iconst X0.here hx rfl (hb hby at_34) k) ?_
  show Go p e below _ T0 (mkF m 35 #[.val (.int x0), .val (.int x1), .val (.int x2), .val (.int x3), .val (.int x4), .val (.int x5), .val (.int c0), .val (.int c1), .unset, .unset, .unset, .unset, .unset, .unset] [(.int (4 : Int32)), (.int x4)])
  refine Go.of (fun _ k => XS.iand X0.here hx rfl (hb hby at_35) rfl k) ?_
  show Go p e below _ T0 (mkF m 36 #[.val (.int x0), .val (.int x1), .val (.int x2), .val (.int x3), .val (.int x4), .val (.int x5), .val (.int c0), .val (.int c1), .unset, .unset, .unset, .unset, .unset, .unset] [(.int (x4 &&& (4 : Int32)))])
  suffices km36 : ∀ (c2 : Int32), c2 = (if (x4 &&& (4 : Int32)) = (0 : Int32) then (x2.toInt8.toInt32) else (-65 : Int32)) → Go p e below (GoEnd s room_1.cells room_1.slots (fun v _ L => v = some (.int 1) ∧ Fr h0.size L)) T0 (mkF m 46 #[.val (.int x0), .val (.int x1), .val (.int x2), .val (.int x3), .val (.int x4), .val (.int x5), .val (.int c0), .val (.int c1), .unset, .unset, .unset, .unset, .unset, .unset] [(.int c2)]) by
    by_cases hc36 : (x4 &&& (4 : Int32)) = (0 : Int32)
    ·
      refine Go.of (fun _ k => XS.ifYes X0.here hx rfl (pc0 := 36) (pc' := 44) rfl (hb hby at_36) rfl ((if0 _ _).trans (teq hc36).1) (by decide) (by decide) k) ?_
      show Go p e below _ T0 (mkF m 44 #[.val (.int x0), .val (.int x1), .val (.int x2), .val (.int x3), .val (.int x4), .val (.int x5), .val (.int c0), .val (.int c1), .unset, .unset, .unset, .unset, .unset, .unset] [])
      refine Go.of (fun _ k => XS.iloadN X0.here hx rfl (hb hby at_44) rfl k) ?_
      show Go p e below _ T0 (mkF m 45 #[.val (.int x0), .val (.int x1), .val (.int x2), .val (.int x3), .val (.int x4), .val (.int x5), .val (.int c0), .val (.int c1), .unset, .unset, .unset, .unset, .unset, .unset] [(.int x2)])
      refine Go.of (fun _ k => XS.i2b X0.here hx rfl (hb hby at_45) rfl k) ?_
      show Go p e below _ T0 (mkF m 46 #[.val (.int x0), .val (.int x1), .val (.int x2), .val (.int x3), .val (.int x4), .val (.int x5), .val (.int c0), .val (.int c1), .unset, .unset, .unset, .unset, .unset, .unset] [(.int (x2.toInt8.toInt32))])
      exact km36 _ (if_pos hc36).symm
    ·
      refine Go.of (fun _ k => XS.ifNo X0.here hx rfl (hb hby at_36) rfl ((if0 _ _).trans (feq hc36).1) k) ?_
      show Go p e below _ T0 (mkF m 39 #[.val (.int x0), .val (.int x1), .val (.int x2), .val (.int x3), .val (.int x4), .val (.int x5), .val (.int c0), .val (.int c1), .unset, .unset, .unset, .unset, .unset, .unset] [])
      refine Go.of (fun _ k => XS.bipush X0.here hx rfl (hb hby at_39) k) ?_
      show Go p e below _ T0 (mkF m 41 #[.val (.int x0), .val (.int x1), .val (.int x2), .val (.int x3), .val (.int x4), .val (.int x5), .val (.int c0), .val (.int c1), .unset, .unset, .unset, .unset, .unset, .unset] [(.int (-65 : Int32))])
      refine Go.of (fun _ k => XS.goto X0.here hx rfl (pc0 := 41) (pc' := 46) rfl (hb hby at_41) (by decide) (by decide) k) ?_
      show Go p e below _ T0 (mkF m 46 #[.val (.int x0), .val (.int x1), .val (.int x2), .val (.int x3), .val (.int x4), .val (.int x5), .val (.int c0), .val (.int c1), .unset, .unset, .unset, .unset, .unset, .unset] [(.int (-65 : Int32))])
      exact km36 _ (if_neg hc36).symm
  intro c2 hu_c2
  show Go p e below _ T0 (mkF m 46 #[.val (.int x0), .val (.int x1), .val (.int x2), .val (.int x3), .val (.int x4), .val (.int x5), .val (.int c0), .val (.int c1), .unset, .unset, .unset, .unset, .unset, .unset] [(.int c2)])
  refine Go.of (fun _ k => XS.istore X0.here hx rfl (hb hby at_46) rfl (l' := #[.val (.int x0), .val (.int x1), .val (.int x2), .val (.int x3), .val (.int x4), .val (.int x5), .val (.int c0), .val (.int c1), .val (.int c2), .unset, .unset, .unset, .unset, .unset]) rfl k) ?_
  show Go p e below _ T0 (mkF m 48 #[.val (.int x0), .val (.int x1), .val (.int x2), .val (.int x3), .val (.int x4), .val (.int x5), .val (.int c0), .val (.int c1), .val (.int c2), .unset, .unset, .unset, .unset, .unset] [])
  refine Go.of (fun _ k => XS.iloadN X0.here hx rfl (hb hby at_48) rfl k) ?_
  show Go p e below _ T0 (mkF m 49 #[.val (.int x0), .val (.int x1), .val (.int x2), .val (.int x3), .val (.int x4), .val (.int x5), .val (.int c0), .val (.int c1), .val (.int c2), .unset, .unset, .unset, .unset, .unset] [(.int x3)])
  refine Go.of (fun _ k => XS.i2b X0.here hx rfl (hb hby at_49) rfl k) ?_
  show Go p e below _ T0 (mkF m 50 #[.val (.int x0), .val (.int x1), .val (.int x2), .val (.int x3), .val (.int x4), .val (.int x5), .val (.int c0), .val (.int c1), .val (.int c2), .unset, .unset, .unset, .unset, .unset] [(.int (x3.toInt8.toInt32))])
  refine Go.of (fun _ k => XS.istore X0.here hx rfl (hb hby at_50) rfl (l' := #[.val (.int x0), .val (.int x1), .val (.int x2), .val (.int x3), .val (.int x4), .val (.int x5), .val (.int c0), .val (.int c1), .val (.int c2), .val (.int (x3.toInt8.toInt32)), .unset, .unset, .unset, .unset]) rfl k) ?_
  show Go p e below _ T0 (mkF m 52 #[.val (.int x0), .val (.int x1), .val (.int x2), .val (.int x3), .val (.int x4), .val (.int x5), .val (.int c0), .val (.int c1), .val (.int c2), .val (.int (x3.toInt8.toInt32)), .unset, .unset, .unset, .unset] [])
  refine Go.of (fun _ k => XS.iload X0.here hx rfl (hb hby at_52) rfl k) ?_
  show Go p e below _ T0 (mkF m 54 #[.val (.int x0), .val (.int x1), .val (.int x2), .val (.int x3), .val (.int x4), .val (.int x5), .val (.int c0), .val (.int c1), .val (.int c2), .val (.int (x3.toInt8.toInt32)), .unset, .unset, .unset, .unset] [(.int x5)])
  refine Go.of (X0.ldcInt hx hown (mvT hZ (hw _ (List.mem_of_getElem? (i := 0) rfl))) (g := (mkF m 54 #[.val (.int x0), .val (.int x1), .val (.int x2), .val (.int x3), .val (.int x4), .val (.int x5), .val (.int c0), .val (.int c1), .val (.int c2), .val (.int (x3.toInt8.toInt32)), .unset, .unset, .unset, .unset] [(.int x5)])) rfl (hb hby at_54)) ?_
  show Go p e below _ T0 (mkF m 56 #[.val (.int x0), .val (.int x1), .val (.int x2), .val (.int x3), .val (.int x4), .val (.int x5), .val (.int c0), .val (.int c1), .val (.int c2), .val (.int (x3.toInt8.toInt32)), .unset, .unset, .unset, .unset] [(.int (2147483647 : Int32)), (.int x5)])
  refine Go.of (fun _ k => XS.iand X0.here hx rfl (hb hby at_56) rfl k) ?_
  show Go p e below _ T0 (mkF m 57 #[.val (.int x0), .val (.int x1), .val (.int x2), .val (.int x3), .val (.int x4), .val (.int x5), .val (.int c0), .val (.int c1), .val (.int c2), .val (.int (x3.toInt8.toInt32)), .unset, .unset, .unset, .unset] [(.int (x5 &&& (2147483647 : Int32)))])
  refine Go.of (fun _ k => XS.iconst X0.here hx rfl (hb hby at_57) k) ?_
  show Go p e below _ T0 (mkF m 58 #[.val (.int x0), .val (.int x1), .val (.int x2), .val (.int x3), .val (.int x4), .val (.int x5), .val (.int c0), .val (.int c1), .val (.int c2), .val (.int (x3.toInt8.toInt32)), .unset, .unset, .unset, .unset] [(.int (5 : Int32)), (.int (x5 &&& (2147483647 : Int32)))])
  refine Go.of (fun _ k => iremM X0 hx rfl (hb hby at_58) rfl (by decide) k) ?_
  show Go p e below _ T0 (mkF m 59 #[.val (.int x0), .val (.int x1), .val (.int x2), .val (.int x3), .val (.int x4), .val (.int x5), .val (.int c0), .val (.int c1), .val (.int c2), .val (.int (x3.toInt8.toInt32)), .unset, .unset, .unset, .unset] [(.int ((x5 &&& (2147483647 : Int32)) % (5 : Int32)))])
  refine Go.of (fun _ k => XS.istore X0.here hx rfl (hb hby at_59) rfl (l' := #[.val (.int x0), .val (.int x1), .val (.int x2), .val (.int x3), .val (.int x4), .val (.int x5), .val (.int c0), .val (.int c1), .val (.int c2), .val (.int (x3.toInt8.toInt32)), .val (.int ((x5 &&& (2147483647 : Int32)) % (5 : Int32))), .unset, .unset, .unset]) rfl k) ?_
  show Go p e below _ T0 (mkF m 61 #[.val (.int x0), .val (.int x1), .val (.int x2), .val (.int x3), .val (.int x4), .val (.int x5), .val (.int c0), .val (.int c1), .val (.int c2), .val (.int (x3.toInt8.toInt32)), .val (.int ((x5 &&& (2147483647 : Int32)) % (5 : Int32))), .unset, .unset, .unset] [])
  refine Go.of (fun _ k => XS.iconst X0.here hx rfl (hb hby at_61) k) ?_
  show Go p e below _ T0 (mkF m 62 #[.val (.int x0), .val (.int x1), .val (.int x2), .val (.int x3), .val (.int x4), .val (.int x5), .val (.int c0), .val (.int c1), .val (.int c2), .val (.int (x3.toInt8.toInt32)), .val (.int ((x5 &&& (2147483647 : Int32)) % (5 : Int32))), .unset, .unset, .unset] [(.int (4 : Int32))])
  refine Go.newarr X0 hx hZ (hw _ (List.mem_of_getElem? (i := 1) rfl)) e0 4 (by decide) (by decide) (by decide) (by decide) (by decide) (hb hby at_62) fun T1 h1 b1 k1 g1 X1 e1 E1 V1 => ?_
  have lt_bm_b1 : bm < b1 := Nat.lt_of_lt_of_le VB.lt (Nat.le_of_eq g1.symm)
  have ge_b1 : h0.size ≤ b1 := g1 ▸ (Nat.le_refl _)
  have sz1 : h0.size ≤ h1.size := Nat.le_trans (Nat.le_refl _) E1.1
  have V1 : Arv Z h1 b1 k1 .byte (4 : Int32) [(.int (0 : Int32)), (.int (0 : Int32)), (.int (0 : Int32)), (.int (0 : Int32))] (.int (0 : Int32)) := V1
  show Go p e below _ T1 (mkF m 64 #[.val (.int x0), .val (.int x1), .val (.int x2), .val (.int x3), .val (.int x4), .val (.int x5), .val (.int c0), .val (.int c1), .val (.int c2), .val (.int (x3.toInt8.toInt32)), .val (.int ((x5 &&& (2147483647 : Int32)) % (5 : Int32))), .unset, .unset, .unset] [(.ref b1)])
  refine Go.of (fun _ k => XS.astore X1.here hx rfl (hb hby at_64) rfl rfl (l' := #[.val (.int x0), .val (.int x1), .val (.int x2), .val (.int x3), .val (.int x4), .val (.int x5), .val (.int c0), .val (.int c1), .val (.int c2), .val (.int (x3.toInt8.toInt32)), .val (.int ((x5 &&& (2147483647 : Int32)) % (5 : Int32))), .val (.ref b1), .unset, .unset]) rfl k) ?_
  show Go p e below _ T1 (mkF m 66 #[.val (.int x0), .val (.int x1), .val (.int x2), .val (.int x3), .val (.int x4), .val (.int x5), .val (.int c0), .val (.int c1), .val (.int c2), .val (.int (x3.toInt8.toInt32)), .val (.int ((x5 &&& (2147483647 : Int32)) % (5 : Int32))), .val (.ref b1), .unset, .unset] [])
  refine Go.of (fun _ k => XS.aload X1.here hx rfl (hb hby at_66) rfl rfl k) ?_
  show Go p e below _ T1 (mkF m 68 #[.val (.int x0), .val (.int x1), .val (.int x2), .val (.int x3), .val (.int x4), .val (.int x5), .val (.int c0), .val (.int c1), .val (.int c2), .val (.int (x3.toInt8.toInt32)), .val (.int ((x5 &&& (2147483647 : Int32)) % (5 : Int32))), .val (.ref b1), .unset, .unset] [(.ref b1)])
  refine Go.of (fun _ k => XS.iconst X1.here hx rfl (hb hby at_68) k) ?_
  show Go p e below _ T1 (mkF m 69 #[.val (.int x0), .val (.int x1), .val (.int x2), .val (.int x3), .val (.int x4), .val (.int x5), .val (.int c0), .val (.int c1), .val (.int c2), .val (.int (x3.toInt8.toInt32)), .val (.int ((x5 &&& (2147483647 : Int32)) % (5 : Int32))), .val (.ref b1), .unset, .unset] [(.int (0 : Int32)), (.ref b1)])
  refine Go.of (fun _ k => XS.iload X1.here hx rfl (hb hby at_69) rfl k) ?_
  show Go p e below _ T1 (mkF m 71 #[.val (.int x0), .val (.int x1), .val (.int x2), .val (.int x3), .val (.int x4), .val (.int x5), .val (.int c0), .val (.int c1), .val (.int c2), .val (.int (x3.toInt8.toInt32)), .val (.int ((x5 &&& (2147483647 : Int32)) % (5 : Int32))), .val (.ref b1), .unset, .unset] [(.int c0), (.int (0 : Int32)), (.ref b1)])
  refine Go.bastore X1 hx hZ e1 V1 ⟨by decide, by decide⟩ 0 rfl (Nat.le_of_ble_eq_true rfl) (hb hby at_71) fun T2 h2 X2 e2 W2 V2 => ?_
  have sz2 : h0.size ≤ h2.size := Nat.le_trans sz1 (Keep.of_wr W2).1
  have N2 := Fr.snoc X2 (Fr.nil _) ge_b1
  have V2 : Arv Z h2 b1 k1 .byte (4 : Int32) [(.int (nar .byte c0)), (.int (0 : Int32)), (.int (0 : Int32)), (.int (0 : Int32))] (.int (0 : Int32)) := V2
  show Go p e below _ T2 (mkF m 72 #[.val (.int x0), .val (.int x1), .val (.int x2), .val (.int x3), .val (.int x4), .val (.int x5), .val (.int c0), .val (.int c1), .val (.int c2), .val (.int (x3.toInt8.toInt32)), .val (.int ((x5 &&& (2147483647 : Int32)) % (5 : Int32))), .val (.ref b1), .unset, .unset] [])
  refine Go.of (fun _ k => XS.aload X2.here hx rfl (hb hby at_72) rfl rfl k) ?_
  show Go p e below _ T2 (mkF m 74 #[.val (.int x0), .val (.int x1), .val (.int x2), .val (.int x3), .val (.int x4), .val (.int x5), .val (.int c0), .val (.int c1), .val (.int c2), .val (.int (x3.toInt8.toInt32)), .val (.int ((x5 &&& (2147483647 : Int32)) % (5 : Int32))), .val (.ref b1), .unset, .unset] [(.ref b1)])
  refine Go.of (fun _ k => XS.iconst X2.here hx rfl (hb hby at_74) k) ?_
  show Go p e below _ T2 (mkF m 75 #[.val (.int x0), .val (.int x1), .val (.int x2), .val (.int x3), .val (.int x4), .val (.int x5), .val (.int c0), .val (.int c1), .val (.int c2), .val (.int (x3.toInt8.toInt32)), .val (.int ((x5 &&& (2147483647 : Int32)) % (5 : Int32))), .val (.ref b1), .unset, .unset] [(.int (1 : Int32)), (.ref b1)])
  refine Go.of (fun _ k => XS.iload X2.here hx rfl (hb hby at_75) rfl k) ?_
  show Go p e below _ T2 (mkF m 77 #[.val (.int x0), .val (.int x1), .val (.int x2), .val (.int x3), .val (.int x4), .val (.int x5), .val (.int c0), .val (.int c1), .val (.int c2), .val (.int (x3.toInt8.toInt32)), .val (.int ((x5 &&& (2147483647 : Int32)) % (5 : Int32))), .val (.ref b1), .unset, .unset] [(.int c1), (.int (1 : Int32)), (.ref b1)])
  refine Go.bastore X2 hx hZ e2 V2 ⟨by decide, by decide⟩ 1 rfl (Nat.le_of_ble_eq_true rfl) (hb hby at_77) fun T3 h3 X3 e3 W3 V3 => ?_
  have sz3 : h0.size ≤ h3.size := Nat.le_trans sz2 (Keep.of_wr W3).1
  have N3 := Fr.snoc X3 N2 ge_b1
  have V3 : Arv Z h3 b1 k1 .byte (4 : Int32) [(.int (nar .byte c0)), (.int (nar .byte c1)), (.int (0 : Int32)), (.int (0 : Int32))] (.int (0 : Int32)) := V3
  show Go p e below _ T3 (mkF m 78 #[.val (.int x0), .val (.int x1), .val (.int x2), .val (.int x3), .val (.int x4), .val (.int x5), .val (.int c0), .val (.int c1), .val (.int c2), .val (.int (x3.toInt8.toInt32)), .val (.int ((x5 &&& (2147483647 : Int32)) % (5 : Int32))), .val (.ref b1), .unset, .unset] [])
  refine Go.of (fun _ k => XS.aload X3.here hx rfl (hb hby at_78) rfl rfl k) ?_
  show Go p e below _ T3 (mkF m 80 #[.val (.int x0), .val (.int x1), .val (.int x2), .val (.int x3), .val (.int x4), .val (.int x5), .val (.int c0), .val (.int c1), .val (.int c2), .val (.int (x3.toInt8.toInt32)), .val (.int ((x5 &&& (2147483647 : Int32)) % (5 : Int32))), .val (.ref b1), .unset, .unset] [(.ref b1)])
  refine Go.of (fun _ k => XS.iconst X3.here hx rfl (hb hby at_80) k) ?_
  show Go p e below _ T3 (mkF m 81 #[.val (.int x0), .val (.int x1), .val (.int x2), .val (.int x3), .val (.int x4), .val (.int x5), .val (.int c0), .val (.int c1), .val (.int c2), .val (.int (x3.toInt8.toInt32)), .val (.int ((x5 &&& (2147483647 : Int32)) % (5 : Int32))), .val (.ref b1), .unset, .unset] [(.int (2 : Int32)), (.ref b1)])
  refine Go.of (fun _ k => XS.iload X3.here hx rfl (hb hby at_81) rfl k) ?_
  show Go p e below _ T3 (mkF m 83 #[.val (.int x0), .val (.int x1), .val (.int x2), .val (.int x3), .val (.int x4), .val (.int x5), .val (.int c0), .val (.int c1), .val (.int c2), .val (.int (x3.toInt8.toInt32)), .val (.int ((x5 &&& (2147483647 : Int32)) % (5 : Int32))), .val (.ref b1), .unset, .unset] [(.int c2), (.int (2 : Int32)), (.ref b1)])
  refine Go.bastore X3 hx hZ e3 V3 ⟨by decide, by decide⟩ 2 rfl (Nat.le_of_ble_eq_true rfl) (hb hby at_83) fun T4 h4 X4 e4 W4 V4 => ?_
  have sz4 : h0.size ≤ h4.size := Nat.le_trans sz3 (Keep.of_wr W4).1
  have N4 := Fr.snoc X4 N3 ge_b1
  have V4 : Arv Z h4 b1 k1 .byte (4 : Int32) [(.int (nar .byte c0)), (.int (nar .byte c1)), (.int (nar .byte c2)), (.int (0 : Int32))] (.int (0 : Int32)) := V4
  show Go p e below _ T4 (mkF m 84 #[.val (.int x0), .val (.int x1), .val (.int x2), .val (.int x3), .val (.int x4), .val (.int x5), .val (.int c0), .val (.int c1), .val (.int c2), .val (.int (x3.toInt8.toInt32)), .val (.int ((x5 &&& (2147483647 : Int32)) % (5 : Int32))), .val (.ref b1), .unset, .unset] [])
  refine Go.of (fun _ k => XS.aload X4.here hx rfl (hb hby at_84) rfl rfl k) ?_
  show Go p e below _ T4 (mkF m 86 #[.val (.int x0), .val (.int x1), .val (.int x2), .val (.int x3), .val (.int x4), .val (.int x5), .val (.int c0), .val (.int c1), .val (.int c2), .val (.int (x3.toInt8.toInt32)), .val (.int ((x5 &&& (2147483647 : Int32)) % (5 : Int32))), .val (.ref b1), .unset, .unset] [(.ref b1)])
  refine Go.of (fun _ k => XS.iconst X4.here hx rfl (hb hby at_86) k) ?_
  show Go p e below _ T4 (mkF m 87 #[.val (.int x0), .val (.int x1), .val (.int x2), .val (.int x3), .val (.int x4), .val (.int x5), .val (.int c0), .val (.int c1), .val (.int c2), .val (.int (x3.toInt8.toInt32)), .val (.int ((x5 &&& (2147483647 : Int32)) % (5 : Int32))), .val (.ref b1), .unset, .unset] [(.int (3 : Int32)), (.ref b1)])
  refine Go.of (fun _ k => XS.iload X4.here hx rfl (hb hby at_87) rfl k) ?_
  show Go p e below _ T4 (mkF m 89 #[.val (.int x0), .val (.int x1), .val (.int x2), .val (.int x3), .val (.int x4), .val (.int x5), .val (.int c0), .val (.int c1), .val (.int c2), .val (.int (x3.toInt8.toInt32)), .val (.int ((x5 &&& (2147483647 : Int32)) % (5 : Int32))), .val (.ref b1), .unset, .unset] [(.int (x3.toInt8.toInt32)), (.int (3 : Int32)), (.ref b1)])
  refine Go.bastore X4 hx hZ e4 V4 ⟨by decide, by decide⟩ 3 rfl (Nat.le_of_ble_eq_true rfl) (hb hby at_89) fun T5 h5 X5 e5 W5 V5 => ?_
  have sz5 : h0.size ≤ h5.size := Nat.le_trans sz4 (Keep.of_wr W5).1
  have N5 := Fr.snoc X5 N4 ge_b1
  have V5 : Arv Z h5 b1 k1 .byte (4 : Int32) [(.int (nar .byte c0)), (.int (nar .byte c1)), (.int (nar .byte c2)), (.int (nar .byte (x3.toInt8.toInt32)))] (.int (0 : Int32)) := V5
  show Go p e below _ T5 (mkF m 90 #[.val (.int x0), .val (.int x1), .val (.int x2), .val (.int x3), .val (.int x4), .val (.int x5), .val (.int c0), .val (.int c1), .val (.int c2), .val (.int (x3.toInt8.toInt32)), .val (.int ((x5 &&& (2147483647 : Int32)) % (5 : Int32))), .val (.ref b1), .unset, .unset] [])
  refine Go.of (fun _ k => XS.iconst X5.here hx rfl (hb hby at_90) k) ?_
  show Go p e below _ T5 (mkF m 91 #[.val (.int x0), .val (.int x1), .val (.int x2), .val (.int x3), .val (.int x4), .val (.int x5), .val (.int c0), .val (.int c1), .val (.int c2), .val (.int (x3.toInt8.toInt32)), .val (.int ((x5 &&& (2147483647 : Int32)) % (5 : Int32))), .val (.ref b1), .unset, .unset] [(.int (0 : Int32))])
  refine Go.of (fun _ k => XS.istore X5.here hx rfl (hb hby at_91) rfl (l' := #[.val (.int x0), .val (.int x1), .val (.int x2), .val (.int x3), .val (.int x4), .val (.int x5), .val (.int c0), .val (.int c1), .val (.int c2), .val (.int (x3.toInt8.toInt32)), .val (.int ((x5 &&& (2147483647 : Int32)) % (5 : Int32))), .val (.ref b1), .val (.int (0 : Int32)), .unset]) rfl k) ?_
  show Go p e below _ T5 (mkF m 93 #[.val (.int x0), .val (.int x1), .val (.int x2), .val (.int x3), .val (.int x4), .val (.int x5), .val (.int c0), .val (.int c1), .val (.int c2), .val (.int (x3.toInt8.toInt32)), .val (.int ((x5 &&& (2147483647 : Int32)) % (5 : Int32))), .val (.ref b1), .val (.int (0 : Int32)), .unset] [])
  refine Go.of (fun _ k => XS.iload X5.here hx rfl (hb hby at_93) rfl k) ?_
  show Go p e below _ T5 (mkF m 95 #[.val (.int x0), .val (.int x1), .val (.int x2), .val (.int x3), .val (.int x4), .val (.int x5), .val (.int c0), .val (.int c1), .val (.int c2), .val (.int (x3.toInt8.toInt32)), .val (.int ((x5 &&& (2147483647 : Int32)) % (5 : Int32))), .val (.ref b1), .val (.int (0 : Int32)), .unset] [(.int ((x5 &&& (2147483647 : Int32)) % (5 : Int32)))])
  refine Go.of (fun _ k => XS.iconst X5.here hx rfl (hb hby at_95) k) ?_
  show Go p e below _ T5 (mkF m 96 #[.val (.int x0), .val (.int x1), .val (.int x2), .val (.int x3), .val (.int x4), .val (.int x5), .val (.int c0), .val (.int c1), .val (.int c2), .val (.int (x3.toInt8.toInt32)), .val (.int ((x5 &&& (2147483647 : Int32)) % (5 : Int32))), .val (.ref b1), .val (.int (0 : Int32)), .unset] [(.int (3 : Int32)), (.int ((x5 &&& (2147483647 : Int32)) % (5 : Int32)))])
  by_cases hc96 : ((x5 &&& (2147483647 : Int32)) % (5 : Int32)) < (3 : Int32)
  ·
    refine Go.of (fun _ k => XS.icmpYes X5.here hx rfl (pc0 := 96) (pc' := 123) rfl (hb hby at_96) rfl (tlt hc96).1 (by decide) (by decide) k) ?_
    show Go p e below _ T5 (mkF m 123 #[.val (.int x0), .val (.int x1), .val (.int x2), .val (.int x3), .val (.int x4), .val (.int x5), .val (.int c0), .val (.int c1), .val (.int c2), .val (.int (x3.toInt8.toInt32)), .val (.int ((x5 &&& (2147483647 : Int32)) % (5 : Int32))), .val (.ref b1), .val (.int (0 : Int32)), .unset] [])
    refine Go.of (fun _ k => XS.aload X5.here hx rfl (hb hby at_123) rfl rfl k) ?_
    show Go p e below _ T5 (mkF m 125 #[.val (.int x0), .val (.int x1), .val (.int x2), .val (.int x3), .val (.int x4), .val (.int x5), .val (.int c0), .val (.int c1), .val (.int c2), .val (.int (x3.toInt8.toInt32)), .val (.int ((x5 &&& (2147483647 : Int32)) % (5 : Int32))), .val (.ref b1), .val (.int (0 : Int32)), .unset] [(.ref b1)])
    refine Go.of (fun _ k => XS.iload X5.here hx rfl (hb hby at_125) rfl k) ?_
    show Go p e below _ T5 (mkF m 127 #[.val (.int x0), .val (.int x1), .val (.int x2), .val (.int x3), .val (.int x4), .val (.int x5), .val (.int c0), .val (.int c1), .val (.int c2), .val (.int (x3.toInt8.toInt32)), .val (.int ((x5 &&& (2147483647 : Int32)) % (5 : Int32))), .val (.ref b1), .val (.int (0 : Int32)), .unset] [(.int ((x5 &&& (2147483647 : Int32)) % (5 : Int32))), (.ref b1)])
    refine Go.callSP (W := 0) (y := (⟨"com/example/joulepath/joulepath/trace/Utf8Text", "markLength", "([BI)I"⟩ : MethodName)) (argsL := [(.ref b1), (.int ((x5 &&& (2147483647 : Int32)) % (5 : Int32)))]) (rest := []) (r := some (.int (own_mark (nar .byte c0) (nar .byte c1) (nar .byte c2) ((x5 &&& (2147483647 : Int32)) % (5 : Int32))))) X5 hx hZ hown (hw _ (List.mem_of_getElem? (i := 2) rfl)) (hw _ (List.mem_of_getElem? (i := 3) rfl)) (hw _ (List.mem_of_getElem? (i := 4) rfl)) (hw _ (List.mem_of_getElem? (i := 5) rfl)) (by decide) (own_rmK l Z a0 hw b1 ((x5 &&& (2147483647 : Int32)) % (5 : Int32)) (nar .byte c0) (nar .byte c1) (nar .byte c2) (nar .byte (x3.toInt8.toInt32)) k1 kb bm h5 V5 (((((VB.ext E1).other W2 (Nat.ne_of_lt lt_bm_b1)).other W3 (Nat.ne_of_lt lt_bm_b1)).other W4 (Nat.ne_of_lt lt_bm_b1)).other W5 (Nat.ne_of_lt lt_bm_b1)) (((((SB.ext E1).wr W2).wr W3).wr W4).wr W5)) e5 (by rw [hml]; rfl) (lenOf own_dsc0 rfl) (hb hby at_127) rfl (Nat.le_of_eq rfl) (by decide) (by decide) (by decide) (by decide) fun T6 X6 e6 => ?_
    show Go p e below _ T6 (mkF m 130 #[.val (.int x0), .val (.int x1), .val (.int x2), .val (.int x3), .val (.int x4), .val (.int x5), .val (.int c0), .val (.int c1), .val (.int c2), .val (.int (x3.toInt8.toInt32)), .val (.int ((x5 &&& (2147483647 : Int32)) % (5 : Int32))), .val (.ref b1), .val (.int (0 : Int32)), .unset] [(.int (own_mark (nar .byte c0) (nar .byte c1) (nar .byte c2) ((x5 &&& (2147483647 : Int32)) % (5 : Int32))))])
    refine Go.of (fun _ k => XS.istore X6.here hx rfl (hb hby at_130) rfl (l' := #[.val (.int x0), .val (.int x1), .val (.int x2), .val (.int x3), .val (.int x4), .val (.int x5), .val (.int c0), .val (.int c1), .val (.int c2), .val (.int (x3.toInt8.toInt32)), .val (.int ((x5 &&& (2147483647 : Int32)) % (5 : Int32))), .val (.ref b1), .val (.int (0 : Int32)), .val (.int (own_mark (nar .byte c0) (nar .byte c1) (nar .byte c2) ((x5 &&& (2147483647 : Int32)) % (5 : Int32))))]) rfl k) ?_
    show Go p e below _ T6 (mkF m 132 #[.val (.int x0), .val (.int x1), .val (.int x2), .val (.int x3), .val (.int x4), .val (.int x5), .val (.int c0), .val (.int c1), .val (.int c2), .val (.int (x3.toInt8.toInt32)), .val (.int ((x5 &&& (2147483647 : Int32)) % (5 : Int32))), .val (.ref b1), .val (.int (0 : Int32)), .val (.int (own_mark (nar .byte c0) (nar .byte c1) (nar .byte c2) ((x5 &&& (2147483647 : Int32)) % (5 : Int32))))] [])
    refine Go.of (fun _ k => XS.iload X6.here hx rfl (hb hby at_132) rfl k) ?_
    show Go p e below _ T6 (mkF m 134 #[.val (.int x0), .val (.int x1), .val (.int x2), .val (.int x3), .val (.int x4), .val (.int x5), .val (.int c0), .val (.int c1), .val (.int c2), .val (.int (x3.toInt8.toInt32)), .val (.int ((x5 &&& (2147483647 : Int32)) % (5 : Int32))), .val (.ref b1), .val (.int (0 : Int32)), .val (.int (own_mark (nar .byte c0) (nar .byte c1) (nar .byte c2) ((x5 &&& (2147483647 : Int32)) % (5 : Int32))))] [(.int (own_mark (nar .byte c0) (nar .byte c1) (nar .byte c2) ((x5 &&& (2147483647 : Int32)) % (5 : Int32))))])
    refine Go.of (fun _ k => XS.iload X6.here hx rfl (hb hby at_134) rfl k) ?_
    show Go p e below _ T6 (mkF m 136 #[.val (.int x0), .val (.int x1), .val (.int x2), .val (.int x3), .val (.int x4), .val (.int x5), .val (.int c0), .val (.int c1), .val (.int c2), .val (.int (x3.toInt8.toInt32)), .val (.int ((x5 &&& (2147483647 : Int32)) % (5 : Int32))), .val (.ref b1), .val (.int (0 : Int32)), .val (.int (own_mark (nar .byte c0) (nar .byte c1) (nar .byte c2) ((x5 &&& (2147483647 : Int32)) % (5 : Int32))))] [(.int (0 : Int32)), (.int (own_mark (nar .byte c0) (nar .byte c1) (nar .byte c2) ((x5 &&& (2147483647 : Int32)) % (5 : Int32))))])
    refine Go.of (fun _ k => XS.icmpNo X6.here hx rfl (hb hby at_136) rfl (teq (by rw [own_byteIf hu_c0 rfl, own_byteIf hu_c1 rfl, own_byteIf hu_c2 rfl]; simp [own_mark, hc96] : (own_mark (nar .byte c0) (nar .byte c1) (nar .byte c2) ((x5 &&& (2147483647 : Int32)) % (5 : Int32))) = (0 : Int32))).2 k) ?_
    show Go p e below _ T6 (mkF m 139 #[.val (.int x0), .val (.int x1), .val (.int x2), .val (.int x3), .val (.int x4), .val (.int x5), .val (.int c0), .val (.int c1), .val (.int c2), .val (.int (x3.toInt8.toInt32)), .val (.int ((x5 &&& (2147483647 : Int32)) % (5 : Int32))), .val (.ref b1), .val (.int (0 : Int32)), .val (.int (own_mark (nar .byte c0) (nar .byte c1) (nar .byte c2) ((x5 &&& (2147483647 : Int32)) % (5 : Int32))))] [])
    refine Go.of (fun _ k => XS.iconst X6.here hx rfl (hb hby at_139) k) ?_
    show Go p e below _ T6 (mkF m 140 #[.val (.int x0), .val (.int x1), .val (.int x2), .val (.int x3), .val (.int x4), .val (.int x5), .val (.int c0), .val (.int c1), .val (.int c2), .val (.int (x3.toInt8.toInt32)), .val (.int ((x5 &&& (2147483647 : Int32)) % (5 : Int32))), .val (.ref b1), .val (.int (0 : Int32)), .val (.int (own_mark (nar .byte c0) (nar .byte c1) (nar .byte c2) ((x5 &&& (2147483647 : Int32)) % (5 : Int32))))] [(.int (1 : Int32))])
    refine Go.of (fun _ k => XS.goto X6.here hx rfl (pc0 := 140) (pc' := 144) rfl (hb hby at_140) (by decide) (by decide) k) ?_
    show Go p e below _ T6 (mkF m 144 #[.val (.int x0), .val (.int x1), .val (.int x2), .val (.int x3), .val (.int x4), .val (.int x5), .val (.int c0), .val (.int c1), .val (.int c2), .val (.int (x3.toInt8.toInt32)), .val (.int ((x5 &&& (2147483647 : Int32)) % (5 : Int32))), .val (.ref b1), .val (.int (0 : Int32)), .val (.int (own_mark (nar .byte c0) (nar .byte c1) (nar .byte c2) ((x5 &&& (2147483647 : Int32)) % (5 : Int32))))] [(.int (1 : Int32))])
    exact Go.retN X6 hx hlk (t := .boolean) hret (by simp) (hb hby at_144) (by decide) (by decide) ⟨rfl, N5⟩
  ·
    refine Go.of (fun _ k => XS.icmpNo X5.here hx rfl (hb hby at_96) rfl (flt hc96).1 k) ?_
    show Go p e below _ T5 (mkF m 99 #[.val (.int x0), .val (.int x1), .val (.int x2), .val (.int x3), .val (.int x4), .val (.int x5), .val (.int c0), .val (.int c1), .val (.int c2), .val (.int (x3.toInt8.toInt32)), .val (.int ((x5 &&& (2147483647 : Int32)) % (5 : Int32))), .val (.ref b1), .val (.int (0 : Int32)), .unset] [])
    refine Go.of (fun _ k => XS.iload X5.here hx rfl (hb hby at_99) rfl k) ?_
    show Go p e below _ T5 (mkF m 101 #[.val (.int x0), .val (.int x1), .val (.int x2), .val (.int x3), .val (.int x4), .val (.int x5), .val (.int c0), .val (.int c1), .val (.int c2), .val (.int (x3.toInt8.toInt32)), .val (.int ((x5 &&& (2147483647 : Int32)) % (5 : Int32))), .val (.ref b1), .val (.int (0 : Int32)), .unset] [(.int c0)])
    refine Go.of (fun _ k => XS.bipush X5.here hx rfl (hb hby at_101) k) ?_
    show Go p e below _ T5 (mkF m 103 #[.val (.int x0), .val (.int x1), .val (.int x2), .val (.int x3), .val (.int x4), .val (.int x5), .val (.int c0), .val (.int c1), .val (.int c2), .val (.int (x3.toInt8.toInt32)), .val (.int ((x5 &&& (2147483647 : Int32)) % (5 : Int32))), .val (.ref b1), .val (.int (0 : Int32)), .unset] [(.int (-17 : Int32)), (.int c0)])
    by_cases hc103 : c0 = (-17 : Int32)
    ·
      refine Go.of (fun _ k => XS.icmpNo X5.here hx rfl (hb hby at_103) rfl (teq hc103).2 k) ?_
      show Go p e below _ T5 (mkF m 106 #[.val (.int x0), .val (.int x1), .val (.int x2), .val (.int x3), .val (.int x4), .val (.int x5), .val (.int c0), .val (.int c1), .val (.int c2), .val (.int (x3.toInt8.toInt32)), .val (.int ((x5 &&& (2147483647 : Int32)) % (5 : Int32))), .val (.ref b1), .val (.int (0 : Int32)), .unset] [])
      refine Go.of (fun _ k => XS.iload X5.here hx rfl (hb hby at_106) rfl k) ?_
      show Go p e below _ T5 (mkF m 108 #[.val (.int x0), .val (.int x1), .val (.int x2), .val (.int x3), .val (.int x4), .val (.int x5), .val (.int c0), .val (.int c1), .val (.int c2), .val (.int (x3.toInt8.toInt32)), .val (.int ((x5 &&& (2147483647 : Int32)) % (5 : Int32))), .val (.ref b1), .val (.int (0 : Int32)), .unset] [(.int c1)])
      refine Go.of (fun _ k => XS.bipush X5.here hx rfl (hb hby at_108) k) ?_
      show Go p e below _ T5 (mkF m 110 #[.val (.int x0), .val (.int x1), .val (.int x2), .val (.int x3), .val (.int x4), .val (.int x5), .val (.int c0), .val (.int c1), .val (.int c2), .val (.int (x3.toInt8.toInt32)), .val (.int ((x5 &&& (2147483647 : Int32)) % (5 : Int32))), .val (.ref b1), .val (.int (0 : Int32)), .unset] [(.int (-69 : Int32)), (.int c1)])
      by_cases hc110 : c1 = (-69 : Int32)
      ·
        refine Go.of (fun _ k => XS.icmpNo X5.here hx rfl (hb hby at_110) rfl (teq hc110).2 k) ?_
        show Go p e below _ T5 (mkF m 113 #[.val (.int x0), .val (.int x1), .val (.int x2), .val (.int x3), .val (.int x4), .val (.int x5), .val (.int c0), .val (.int c1), .val (.int c2), .val (.int (x3.toInt8.toInt32)), .val (.int ((x5 &&& (2147483647 : Int32)) % (5 : Int32))), .val (.ref b1), .val (.int (0 : Int32)), .unset] [])
        refine Go.of (fun _ k => XS.iload X5.here hx rfl (hb hby at_113) rfl k) ?_
        show Go p e below _ T5 (mkF m 115 #[.val (.int x0), .val (.int x1), .val (.int x2), .val (.int x3), .val (.int x4), .val (.int x5), .val (.int c0), .val (.int c1), .val (.int c2), .val (.int (x3.toInt8.toInt32)), .val (.int ((x5 &&& (2147483647 : Int32)) % (5 : Int32))), .val (.ref b1), .val (.int (0 : Int32)), .unset] [(.int c2)])
        refine Go.of (fun _ k => XS.bipush X5.here hx rfl (hb hby at_115) k) ?_
        show Go p e below _ T5 (mkF m 117 #[.val (.int x0), .val (.int x1), .val (.int x2), .val (.int x3), .val (.int x4), .val (.int x5), .val (.int c0), .val (.int c1), .val (.int c2), .val (.int (x3.toInt8.toInt32)), .val (.int ((x5 &&& (2147483647 : Int32)) % (5 : Int32))), .val (.ref b1), .val (.int (0 : Int32)), .unset] [(.int (-65 : Int32)), (.int c2)])
        by_cases hc117 : c2 = (-65 : Int32)
        ·
          refine Go.of (fun _ k => XS.icmpNo X5.here hx rfl (hb hby at_117) rfl (teq hc117).2 k) ?_
          show Go p e below _ T5 (mkF m 120 #[.val (.int x0), .val (.int x1), .val (.int x2), .val (.int x3), .val (.int x4), .val (.int x5), .val (.int c0), .val (.int c1), .val (.int c2), .val (.int (x3.toInt8.toInt32)), .val (.int ((x5 &&& (2147483647 : Int32)) % (5 : Int32))), .val (.ref b1), .val (.int (0 : Int32)), .unset] [])
          refine Go.of (fun _ k => XS.iconst X5.here hx rfl (hb hby at_120) k) ?_
          show Go p e below _ T5 (mkF m 121 #[.val (.int x0), .val (.int x1), .val (.int x2), .val (.int x3), .val (.int x4), .val (.int x5), .val (.int c0), .val (.int c1), .val (.int c2), .val (.int (x3.toInt8.toInt32)), .val (.int ((x5 &&& (2147483647 : Int32)) % (5 : Int32))), .val (.ref b1), .val (.int (0 : Int32)), .unset] [(.int (3 : Int32))])
          refine Go.of (fun _ k => XS.istore X5.here hx rfl (hb hby at_121) rfl (l' := #[.val (.int x0), .val (.int x1), .val (.int x2), .val (.int x3), .val (.int x4), .val (.int x5), .val (.int c0), .val (.int c1), .val (.int c2), .val (.int (x3.toInt8.toInt32)), .val (.int ((x5 &&& (2147483647 : Int32)) % (5 : Int32))), .val (.ref b1), .val (.int (3 : Int32)), .unset]) rfl k) ?_
          show Go p e below _ T5 (mkF m 123 #[.val (.int x0), .val (.int x1), .val (.int x2), .val (.int x3), .val (.int x4), .val (.int x5), .val (.int c0), .val (.int c1), .val (.int c2), .val (.int (x3.toInt8.toInt32)), .val (.int ((x5 &&& (2147483647 : Int32)) % (5 : Int32))), .val (.ref b1), .val (.int (3 : Int32)), .unset] [])
          refine Go.of (fun _ k => XS.aload X5.here hx rfl (hb hby at_123) rfl rfl k) ?_
          show Go p e below _ T5 (mkF m 125 #[.val (.int x0), .val (.int x1), .val (.int x2), .val (.int x3), .val (.int x4), .val (.int x5), .val (.int c0), .val (.int c1), .val (.int c2), .val (.int (x3.toInt8.toInt32)), .val (.int ((x5 &&& (2147483647 : Int32)) % (5 : Int32))), .val (.ref b1), .val (.int (3 : Int32)), .unset] [(.ref b1)])
          refine Go.of (fun _ k => XS.iload X5.here hx rfl (hb hby at_125) rfl k) ?_
          show Go p e below _ T5 (mkF m 127 #[.val (.int x0), .val (.int x1), .val (.int x2), .val (.int x3), .val (.int x4), .val (.int x5), .val (.int c0), .val (.int c1), .val (.int c2), .val (.int (x3.toInt8.toInt32)), .val (.int ((x5 &&& (2147483647 : Int32)) % (5 : Int32))), .val (.ref b1), .val (.int (3 : Int32)), .unset] [(.int ((x5 &&& (2147483647 : Int32)) % (5 : Int32))), (.ref b1)])
          refine Go.callSP (W := 0) (y := (⟨"com/example/joulepath/joulepath/trace/Utf8Text", "markLength", "([BI)I"⟩ : MethodName)) (argsL := [(.ref b1), (.int ((x5 &&& (2147483647 : Int32)) % (5 : Int32)))]) (rest := []) (r := some (.int (own_mark (nar .byte c0) (nar .byte c1) (nar .byte c2) ((x5 &&& (2147483647 : Int32)) % (5 : Int32))))) X5 hx hZ hown (hw _ (List.mem_of_getElem? (i := 2) rfl)) (hw _ (List.mem_of_getElem? (i := 3) rfl)) (hw _ (List.mem_of_getElem? (i := 4) rfl)) (hw _ (List.mem_of_getElem? (i := 5) rfl)) (by decide) (own_rmK l Z a0 hw b1 ((x5 &&& (2147483647 : Int32)) % (5 : Int32)) (nar .byte c0) (nar .byte c1) (nar .byte c2) (nar .byte (x3.toInt8.toInt32)) k1 kb bm h5 V5 (((((VB.ext E1).other W2 (Nat.ne_of_lt lt_bm_b1)).other W3 (Nat.ne_of_lt lt_bm_b1)).other W4 (Nat.ne_of_lt lt_bm_b1)).other W5 (Nat.ne_of_lt lt_bm_b1)) (((((SB.ext E1).wr W2).wr W3).wr W4).wr W5)) e5 (by rw [hml]; rfl) (lenOf own_dsc0 rfl) (hb hby at_127) rfl (Nat.le_of_eq rfl) (by decide) (by decide) (by decide) (by decide) fun T7 X7 e7 => ?_
          show Go p e below _ T7 (mkF m 130 #[.val (.int x0), .val (.int x1), .val (.int x2), .val (.int x3), .val (.int x4), .val (.int x5), .val (.int c0), .val (.int c1), .val (.int c2), .val (.int (x3.toInt8.toInt32)), .val (.int ((x5 &&& (2147483647 : Int32)) % (5 : Int32))), .val (.ref b1), .val (.int (3 : Int32)), .unset] [(.int (own_mark (nar .byte c0) (nar .byte c1) (nar .byte c2) ((x5 &&& (2147483647 : Int32)) % (5 : Int32))))])
          refine Go.of (fun _ k => XS.istore X7.here hx rfl (hb hby at_130) rfl (l' := #[.val (.int x0), .val (.int x1), .val (.int x2), .val (.int x3), .val (.int x4), .val (.int x5), .val (.int c0), .val (.int c1), .val (.int c2), .val (.int (x3.toInt8.toInt32)), .val (.int ((x5 &&& (2147483647 : Int32)) % (5 : Int32))), .val (.ref b1), .val (.int (3 : Int32)), .val (.int (own_mark (nar .byte c0) (nar .byte c1) (nar .byte c2) ((x5 &&& (2147483647 : Int32)) % (5 : Int32))))]) rfl k) ?_
          show Go p e below _ T7 (mkF m 132 #[.val (.int x0), .val (.int x1), .val (.int x2), .val (.int x3), .val (.int x4), .val (.int x5), .val (.int c0), .val (.int c1), .val (.int c2), .val (.int (x3.toInt8.toInt32)), .val (.int ((x5 &&& (2147483647 : Int32)) % (5 : Int32))), .val (.ref b1), .val (.int (3 : Int32)), .val (.int (own_mark (nar .byte c0) (nar .byte c1) (nar .byte c2) ((x5 &&& (2147483647 : Int32)) % (5 : Int32))))] [])
          refine Go.of (fun _ k => XS.iload X7.here hx rfl (hb hby at_132) rfl k) ?_
          show Go p e below _ T7 (mkF m 134 #[.val (.int x0), .val (.int x1), .val (.int x2), .val (.int x3), .val (.int x4), .val (.int x5), .val (.int c0), .val (.int c1), .val (.int c2), .val (.int (x3.toInt8.toInt32)), .val (.int ((x5 &&& (2147483647 : Int32)) % (5 : Int32))), .val (.ref b1), .val (.int (3 : Int32)), .val (.int (own_mark (nar .byte c0) (nar .byte c1) (nar .byte c2) ((x5 &&& (2147483647 : Int32)) % (5 : Int32))))] [(.int (own_mark (nar .byte c0) (nar .byte c1) (nar .byte c2) ((x5 &&& (2147483647 : Int32)) % (5 : Int32))))])
          refine Go.of (fun _ k => XS.iload X7.here hx rfl (hb hby at_134) rfl k) ?_
          show Go p e below _ T7 (mkF m 136 #[.val (.int x0), .val (.int x1), .val (.int x2), .val (.int x3), .val (.int x4), .val (.int x5), .val (.int c0), .val (.int c1), .val (.int c2), .val (.int (x3.toInt8.toInt32)), .val (.int ((x5 &&& (2147483647 : Int32)) % (5 : Int32))), .val (.ref b1), .val (.int (3 : Int32)), .val (.int (own_mark (nar .byte c0) (nar .byte c1) (nar .byte c2) ((x5 &&& (2147483647 : Int32)) % (5 : Int32))))] [(.int (3 : Int32)), (.int (own_mark (nar .byte c0) (nar .byte c1) (nar .byte c2) ((x5 &&& (2147483647 : Int32)) % (5 : Int32))))])
          refine Go.of (fun _ k => XS.icmpNo X7.here hx rfl (hb hby at_136) rfl (teq (by rw [own_byteIf hu_c0 rfl, own_byteIf hu_c1 rfl, own_byteIf hu_c2 rfl]; simp [own_mark, hc96, hc103, hc110, hc117] : (own_mark (nar .byte c0) (nar .byte c1) (nar .byte c2) ((x5 &&& (2147483647 : Int32)) % (5 : Int32))) = (3 : Int32))).2 k) ?_
          show Go p e below _ T7 (mkF m 139 #[.val (.int x0), .val (.int x1), .val (.int x2), .val (.int x3), .val (.int x4), .val (.int x5), .val (.int c0), .val (.int c1), .val (.int c2), .val (.int (x3.toInt8.toInt32)), .val (.int ((x5 &&& (2147483647 : Int32)) % (5 : Int32))), .val (.ref b1), .val (.int (3 : Int32)), .val (.int (own_mark (nar .byte c0) (nar .byte c1) (nar .byte c2) ((x5 &&& (2147483647 : Int32)) % (5 : Int32))))] [])
          refine Go.of (fun _ k => XS.iconst X7.here hx rfl (hb hby at_139) k) ?_
          show Go p e below _ T7 (mkF m 140 #[.val (.int x0), .val (.int x1), .val (.int x2), .val (.int x3), .val (.int x4), .val (.int x5), .val (.int c0), .val (.int c1), .val (.int c2), .val (.int (x3.toInt8.toInt32)), .val (.int ((x5 &&& (2147483647 : Int32)) % (5 : Int32))), .val (.ref b1), .val (.int (3 : Int32)), .val (.int (own_mark (nar .byte c0) (nar .byte c1) (nar .byte c2) ((x5 &&& (2147483647 : Int32)) % (5 : Int32))))] [(.int (1 : Int32))])
          refine Go.of (fun _ k => XS.goto X7.here hx rfl (pc0 := 140) (pc' := 144) rfl (hb hby at_140) (by decide) (by decide) k) ?_
          show Go p e below _ T7 (mkF m 144 #[.val (.int x0), .val (.int x1), .val (.int x2), .val (.int x3), .val (.int x4), .val (.int x5), .val (.int c0), .val (.int c1), .val (.int c2), .val (.int (x3.toInt8.toInt32)), .val (.int ((x5 &&& (2147483647 : Int32)) % (5 : Int32))), .val (.ref b1), .val (.int (3 : Int32)), .val (.int (own_mark (nar .byte c0) (nar .byte c1) (nar .byte c2) ((x5 &&& (2147483647 : Int32)) % (5 : Int32))))] [(.int (1 : Int32))])
          exact Go.retN X7 hx hlk (t := .boolean) hret (by simp) (hb hby at_144) (by decide) (by decide) ⟨rfl, N5⟩
        ·
          refine Go.of (fun _ k => XS.icmpYes X5.here hx rfl (pc0 := 117) (pc' := 123) rfl (hb hby at_117) rfl (feq hc117).2 (by decide) (by decide) k) ?_
          show Go p e below _ T5 (mkF m 123 #[.val (.int x0), .val (.int x1), .val (.int x2), .val (.int x3), .val (.int x4), .val (.int x5), .val (.int c0), .val (.int c1), .val (.int c2), .val (.int (x3.toInt8.toInt32)), .val (.int ((x5 &&& (2147483647 : Int32)) % (5 : Int32))), .val (.ref b1), .val (.int (0 : Int32)), .unset] [])
          refine Go.of (fun _ k => XS.aload X5.here hx rfl (hb hby at_123) rfl rfl k) ?_
          show Go p e below _ T5 (mkF m 125 #[.val (.int x0), .val (.int x1), .val (.int x2), .val (.int x3), .val (.int x4), .val (.int x5), .val (.int c0), .val (.int c1), .val (.int c2), .val (.int (x3.toInt8.toInt32)), .val (.int ((x5 &&& (2147483647 : Int32)) % (5 : Int32))), .val (.ref b1), .val (.int (0 : Int32)), .unset] [(.ref b1)])
          refine Go.of (fun _ k => XS.iload X5.here hx rfl (hb hby at_125) rfl k) ?_
          show Go p e below _ T5 (mkF m 127 #[.val (.int x0), .val (.int x1), .val (.int x2), .val (.int x3), .val (.int x4), .val (.int x5), .val (.int c0), .val (.int c1), .val (.int c2), .val (.int (x3.toInt8.toInt32)), .val (.int ((x5 &&& (2147483647 : Int32)) % (5 : Int32))), .val (.ref b1), .val (.int (0 : Int32)), .unset] [(.int ((x5 &&& (2147483647 : Int32)) % (5 : Int32))), (.ref b1)])
          refine Go.callSP (W := 0) (y := (⟨"com/example/joulepath/joulepath/trace/Utf8Text", "markLength", "([BI)I"⟩ : MethodName)) (argsL := [(.ref b1), (.int ((x5 &&& (2147483647 : Int32)) % (5 : Int32)))]) (rest := []) (r := some (.int (own_mark (nar .byte c0) (nar .byte c1) (nar .byte c2) ((x5 &&& (2147483647 : Int32)) % (5 : Int32))))) X5 hx hZ hown (hw _ (List.mem_of_getElem? (i := 2) rfl)) (hw _ (List.mem_of_getElem? (i := 3) rfl)) (hw _ (List.mem_of_getElem? (i := 4) rfl)) (hw _ (List.mem_of_getElem? (i := 5) rfl)) (by decide) (own_rmK l Z a0 hw b1 ((x5 &&& (2147483647 : Int32)) % (5 : Int32)) (nar .byte c0) (nar .byte c1) (nar .byte c2) (nar .byte (x3.toInt8.toInt32)) k1 kb bm h5 V5 (((((VB.ext E1).other W2 (Nat.ne_of_lt lt_bm_b1)).other W3 (Nat.ne_of_lt lt_bm_b1)).other W4 (Nat.ne_of_lt lt_bm_b1)).other W5 (Nat.ne_of_lt lt_bm_b1)) (((((SB.ext E1).wr W2).wr W3).wr W4).wr W5)) e5 (by rw [hml]; rfl) (lenOf own_dsc0 rfl) (hb hby at_127) rfl (Nat.le_of_eq rfl) (by decide) (by decide) (by decide) (by decide) fun T8 X8 e8 => ?_
          show Go p e below _ T8 (mkF m 130 #[.val (.int x0), .val (.int x1), .val (.int x2), .val (.int x3), .val (.int x4), .val (.int x5), .val (.int c0), .val (.int c1), .val (.int c2), .val (.int (x3.toInt8.toInt32)), .val (.int ((x5 &&& (2147483647 : Int32)) % (5 : Int32))), .val (.ref b1), .val (.int (0 : Int32)), .unset] [(.int (own_mark (nar .byte c0) (nar .byte c1) (nar .byte c2) ((x5 &&& (2147483647 : Int32)) % (5 : Int32))))])
          refine Go.of (fun _ k => XS.istore X8.here hx rfl (hb hby at_130) rfl (l' := #[.val (.int x0), .val (.int x1), .val (.int x2), .val (.int x3), .val (.int x4), .val (.int x5), .val (.int c0), .val (.int c1), .val (.int c2), .val (.int (x3.toInt8.toInt32)), .val (.int ((x5 &&& (2147483647 : Int32)) % (5 : Int32))), .val (.ref b1), .val (.int (0 : Int32)), .val (.int (own_mark (nar .byte c0) (nar .byte c1) (nar .byte c2) ((x5 &&& (2147483647 : Int32)) % (5 : Int32))))]) rfl k) ?_
          show Go p e below _ T8 (mkF m 132 #[.val (.int x0), .val (.int x1), .val (.int x2), .val (.int x3), .val (.int x4), .val (.int x5), .val (.int c0), .val (.int c1), .val (.int c2), .val (.int (x3.toInt8.toInt32)), .val (.int ((x5 &&& (2147483647 : Int32)) % (5 : Int32))), .val (.ref b1), .val (.int (0 : Int32)), .val (.int (own_mark (nar .byte c0) (nar .byte c1) (nar .byte c2) ((x5 &&& (2147483647 : Int32)) % (5 : Int32))))] [])
          refine Go.of (fun _ k => XS.iload X8.here hx rfl (hb hby at_132) rfl k) ?_
          show Go p e below _ T8 (mkF m 134 #[.val (.int x0), .val (.int x1), .val (.int x2), .val (.int x3), .val (.int x4), .val (.int x5), .val (.int c0), .val (.int c1), .val (.int c2), .val (.int (x3.toInt8.toInt32)), .val (.int ((x5 &&& (2147483647 : Int32)) % (5 : Int32))), .val (.ref b1), .val (.int (0 : Int32)), .val (.int (own_mark (nar .byte c0) (nar .byte c1) (nar .byte c2) ((x5 &&& (2147483647 : Int32)) % (5 : Int32))))] [(.int (own_mark (nar .byte c0) (nar .byte c1) (nar .byte c2) ((x5 &&& (2147483647 : Int32)) % (5 : Int32))))])
          refine Go.of (fun _ k => XS.iload X8.here hx rfl (hb hby at_134) rfl k) ?_
          show Go p e below _ T8 (mkF m 136 #[.val (.int x0), .val (.int x1), .val (.int x2), .val (.int x3), .val (.int x4), .val (.int x5), .val (.int c0), .val (.int c1), .val (.int c2), .val (.int (x3.toInt8.toInt32)), .val (.int ((x5 &&& (2147483647 : Int32)) % (5 : Int32))), .val (.ref b1), .val (.int (0 : Int32)), .val (.int (own_mark (nar .byte c0) (nar .byte c1) (nar .byte c2) ((x5 &&& (2147483647 : Int32)) % (5 : Int32))))] [(.int (0 : Int32)), (.int (own_mark (nar .byte c0) (nar .byte c1) (nar .byte c2) ((x5 &&& (2147483647 : Int32)) % (5 : Int32))))])
          refine Go.of (fun _ k => XS.icmpNo X8.here hx rfl (hb hby at_136) rfl (teq (by rw [own_byteIf hu_c0 rfl, own_byteIf hu_c1 rfl, own_byteIf hu_c2 rfl]; simp [own_mark, hc96, hc103, hc110, hc117] : (own_mark (nar .byte c0) (nar .byte c1) (nar .byte c2) ((x5 &&& (2147483647 : Int32)) % (5 : Int32))) = (0 : Int32))).2 k) ?_
          show Go p e below _ T8 (mkF m 139 #[.val (.int x0), .val (.int x1), .val (.int x2), .val (.int x3), .val (.int x4), .val (.int x5), .val (.int c0), .val (.int c1), .val (.int c2), .val (.int (x3.toInt8.toInt32)), .val (.int ((x5 &&& (2147483647 : Int32)) % (5 : Int32))), .val (.ref b1), .val (.int (0 : Int32)), .val (.int (own_mark (nar .byte c0) (nar .byte c1) (nar .byte c2) ((x5 &&& (2147483647 : Int32)) % (5 : Int32))))] [])
          refine Go.of (fun _ k => XS.iconst X8.here hx rfl (hb hby at_139) k) ?_
          show Go p e below _ T8 (mkF m 140 #[.val (.int x0), .val (.int x1), .val (.int x2), .val (.int x3), .val (.int x4), .val (.int x5), .val (.int c0), .val (.int c1), .val (.int c2), .val (.int (x3.toInt8.toInt32)), .val (.int ((x5 &&& (2147483647 : Int32)) % (5 : Int32))), .val (.ref b1), .val (.int (0 : Int32)), .val (.int (own_mark (nar .byte c0) (nar .byte c1) (nar .byte c2) ((x5 &&& (2147483647 : Int32)) % (5 : Int32))))] [(.int (1 : Int32))])
          refine Go.of (fun _ k => XS.goto X8.here hx rfl (pc0 := 140) (pc' := 144) rfl (hb hby at_140) (by decide) (by decide) k) ?_
          show Go p e below _ T8 (mkF m 144 #[.val (.int x0), .val (.int x1), .val (.int x2), .val (.int x3), .val (.int x4), .val (.int x5), .val (.int c0), .val (.int c1), .val (.int c2), .val (.int (x3.toInt8.toInt32)), .val (.int ((x5 &&& (2147483647 : Int32)) % (5 : Int32))), .val (.ref b1), .val (.int (0 : Int32)), .val (.int (own_mark (nar .byte c0) (nar .byte c1) (nar .byte c2) ((x5 &&& (2147483647 : Int32)) % (5 : Int32))))] [(.int (1 : Int32))])
          exact Go.retN X8 hx hlk (t := .boolean) hret (by simp) (hb hby at_144) (by decide) (by decide) ⟨rfl, N5⟩
      ·
        refine Go.of (fun _ k => XS.icmpYes X5.here hx rfl (pc0 := 110) (pc' := 123) rfl (hb hby at_110) rfl (feq hc110).2 (by decide) (by decide) k) ?_
        show Go p e below _ T5 (mkF m 123 #[.val (.int x0), .val (.int x1), .val (.int x2), .val (.int x3), .val (.int x4), .val (.int x5), .val (.int c0), .val (.int c1), .val (.int c2), .val (.int (x3.toInt8.toInt32)), .val (.int ((x5 &&& (2147483647 : Int32)) % (5 : Int32))), .val (.ref b1), .val (.int (0 : Int32)), .unset] [])
        refine Go.of (fun _ k => XS.aload X5.here hx rfl (hb hby at_123) rfl rfl k) ?_
        show Go p e below _ T5 (mkF m 125 #[.val (.int x0), .val (.int x1), .val (.int x2), .val (.int x3), .val (.int x4), .val (.int x5), .val (.int c0), .val (.int c1), .val (.int c2), .val (.int (x3.toInt8.toInt32)), .val (.int ((x5 &&& (2147483647 : Int32)) % (5 : Int32))), .val (.ref b1), .val (.int (0 : Int32)), .unset] [(.ref b1)])
        refine Go.of (fun _ k => XS.iload X5.here hx rfl (hb hby at_125) rfl k) ?_
        show Go p e below _ T5 (mkF m 127 #[.val (.int x0), .val (.int x1), .val (.int x2), .val (.int x3), .val (.int x4), .val (.int x5), .val (.int c0), .val (.int c1), .val (.int c2), .val (.int (x3.toInt8.toInt32)), .val (.int ((x5 &&& (2147483647 : Int32)) % (5 : Int32))), .val (.ref b1), .val (.int (0 : Int32)), .unset] [(.int ((x5 &&& (2147483647 : Int32)) % (5 : Int32))), (.ref b1)])
        refine Go.callSP (W := 0) (y := (⟨"com/example/joulepath/joulepath/trace/Utf8Text", "markLength", "([BI)I"⟩ : MethodName)) (argsL := [(.ref b1), (.int ((x5 &&& (2147483647 : Int32)) % (5 : Int32)))]) (rest := []) (r := some (.int (own_mark (nar .byte c0) (nar .byte c1) (nar .byte c2) ((x5 &&& (2147483647 : Int32)) % (5 : Int32))))) X5 hx hZ hown (hw _ (List.mem_of_getElem? (i := 2) rfl)) (hw _ (List.mem_of_getElem? (i := 3) rfl)) (hw _ (List.mem_of_getElem? (i := 4) rfl)) (hw _ (List.mem_of_getElem? (i := 5) rfl)) (by decide) (own_rmK l Z a0 hw b1 ((x5 &&& (2147483647 : Int32)) % (5 : Int32)) (nar .byte c0) (nar .byte c1) (nar .byte c2) (nar .byte (x3.toInt8.toInt32)) k1 kb bm h5 V5 (((((VB.ext E1).other W2 (Nat.ne_of_lt lt_bm_b1)).other W3 (Nat.ne_of_lt lt_bm_b1)).other W4 (Nat.ne_of_lt lt_bm_b1)).other W5 (Nat.ne_of_lt lt_bm_b1)) (((((SB.ext E1).wr W2).wr W3).wr W4).wr W5)) e5 (by rw [hml]; rfl) (lenOf own_dsc0 rfl) (hb hby at_127) rfl (Nat.le_of_eq rfl) (by decide) (by decide) (by decide) (by decide) fun T9 X9 e9 => ?_
        show Go p e below _ T9 (mkF m 130 #[.val (.int x0), .val (.int x1), .val (.int x2), .val (.int x3), .val (.int x4), .val (.int x5), .val (.int c0), .val (.int c1), .val (.int c2), .val (.int (x3.toInt8.toInt32)), .val (.int ((x5 &&& (2147483647 : Int32)) % (5 : Int32))), .val (.ref b1), .val (.int (0 : Int32)), .unset] [(.int (own_mark (nar .byte c0) (nar .byte c1) (nar .byte c2) ((x5 &&& (2147483647 : Int32)) % (5 : Int32))))])
        refine Go.of (fun _ k => XS.istore X9.here hx rfl (hb hby at_130) rfl (l' := #[.val (.int x0), .val (.int x1), .val (.int x2), .val (.int x3), .val (.int x4), .val (.int x5), .val (.int c0), .val (.int c1), .val (.int c2), .val (.int (x3.toInt8.toInt32)), .val (.int ((x5 &&& (2147483647 : Int32)) % (5 : Int32))), .val (.ref b1), .val (.int (0 : Int32)), .val (.int (own_mark (nar .byte c0) (nar .byte c1) (nar .byte c2) ((x5 &&& (2147483647 : Int32)) % (5 : Int32))))]) rfl k) ?_
        show Go p e below _ T9 (mkF m 132 #[.val (.int x0), .val (.int x1), .val (.int x2), .val (.int x3), .val (.int x4), .val (.int x5), .val (.int c0), .val (.int c1), .val (.int c2), .val (.int (x3.toInt8.toInt32)), .val (.int ((x5 &&& (2147483647 : Int32)) % (5 : Int32))), .val (.ref b1), .val (.int (0 : Int32)), .val (.int (own_mark (nar .byte c0) (nar .byte c1) (nar .byte c2) ((x5 &&& (2147483647 : Int32)) % (5 : Int32))))] [])
        refine Go.of (fun _ k => XS.iload X9.here hx rfl (hb hby at_132) rfl k) ?_
        show Go p e below _ T9 (mkF m 134 #[.val (.int x0), .val (.int x1), .val (.int x2), .val (.int x3), .val (.int x4), .val (.int x5), .val (.int c0), .val (.int c1), .val (.int c2), .val (.int (x3.toInt8.toInt32)), .val (.int ((x5 &&& (2147483647 : Int32)) % (5 : Int32))), .val (.ref b1), .val (.int (0 : Int32)), .val (.int (own_mark (nar .byte c0) (nar .byte c1) (nar .byte c2) ((x5 &&& (2147483647 : Int32)) % (5 : Int32))))] [(.int (own_mark (nar .byte c0) (nar .byte c1) (nar .byte c2) ((x5 &&& (2147483647 : Int32)) % (5 : Int32))))])
        refine Go.of (fun _ k => XS.iload X9.here hx rfl (hb hby at_134) rfl k) ?_
        show Go p e below _ T9 (mkF m 136 #[.val (.int x0), .val (.int x1), .val (.int x2), .val (.int x3), .val (.int x4), .val (.int x5), .val (.int c0), .val (.int c1), .val (.int c2), .val (.int (x3.toInt8.toInt32)), .val (.int ((x5 &&& (2147483647 : Int32)) % (5 : Int32))), .val (.ref b1), .val (.int (0 : Int32)), .val (.int (own_mark (nar .byte c0) (nar .byte c1) (nar .byte c2) ((x5 &&& (2147483647 : Int32)) % (5 : Int32))))] [(.int (0 : Int32)), (.int (own_mark (nar .byte c0) (nar .byte c1) (nar .byte c2) ((x5 &&& (2147483647 : Int32)) % (5 : Int32))))])
        refine Go.of (fun _ k => XS.icmpNo X9.here hx rfl (hb hby at_136) rfl (teq (by rw [own_byteIf hu_c0 rfl, own_byteIf hu_c1 rfl, own_byteIf hu_c2 rfl]; simp [own_mark, hc96, hc103, hc110] : (own_mark (nar .byte c0) (nar .byte c1) (nar .byte c2) ((x5 &&& (2147483647 : Int32)) % (5 : Int32))) = (0 : Int32))).2 k) ?_
        show Go p e below _ T9 (mkF m 139 #[.val (.int x0), .val (.int x1), .val (.int x2), .val (.int x3), .val (.int x4), .val (.int x5), .val (.int c0), .val (.int c1), .val (.int c2), .val (.int (x3.toInt8.toInt32)), .val (.int ((x5 &&& (2147483647 : Int32)) % (5 : Int32))), .val (.ref b1), .val (.int (0 : Int32)), .val (.int (own_mark (nar .byte c0) (nar .byte c1) (nar .byte c2) ((x5 &&& (2147483647 : Int32)) % (5 : Int32))))] [])
        refine Go.of (fun _ k => XS.iconst X9.here hx rfl (hb hby at_139) k) ?_
        show Go p e below _ T9 (mkF m 140 #[.val (.int x0), .val (.int x1), .val (.int x2), .val (.int x3), .val (.int x4), .val (.int x5), .val (.int c0), .val (.int c1), .val (.int c2), .val (.int (x3.toInt8.toInt32)), .val (.int ((x5 &&& (2147483647 : Int32)) % (5 : Int32))), .val (.ref b1), .val (.int (0 : Int32)), .val (.int (own_mark (nar .byte c0) (nar .byte c1) (nar .byte c2) ((x5 &&& (2147483647 : Int32)) % (5 : Int32))))] [(.int (1 : Int32))])
        refine Go.of (fun _ k => XS.goto X9.here hx rfl (pc0 := 140) (pc' := 144) rfl (hb hby at_140) (by decide) (by decide) k) ?_
        show Go p e below _ T9 (mkF m 144 #[.val (.int x0), .val (.int x1), .val (.int x2), .val (.int x3), .val (.int x4), .val (.int x5), .val (.int c0), .val (.int c1), .val (.int c2), .val (.int (x3.toInt8.toInt32)), .val (.int ((x5 &&& (2147483647 : Int32)) % (5 : Int32))), .val (.ref b1), .val (.int (0 : Int32)), .val (.int (own_mark (nar .byte c0) (nar .byte c1) (nar .byte c2) ((x5 &&& (2147483647 : Int32)) % (5 : Int32))))] [(.int (1 : Int32))])
        exact Go.retN X9 hx hlk (t := .boolean) hret (by simp) (hb hby at_144) (by decide) (by decide) ⟨rfl, N5⟩
    ·
      refine Go.of (fun _ k => XS.icmpYes X5.here hx rfl (pc0 := 103) (pc' := 123) rfl (hb hby at_103) rfl (feq hc103).2 (by decide) (by decide) k) ?_
      show Go p e below _ T5 (mkF m 123 #[.val (.int x0), .val (.int x1), .val (.int x2), .val (.int x3), .val (.int x4), .val (.int x5), .val (.int c0), .val (.int c1), .val (.int c2), .val (.int (x3.toInt8.toInt32)), .val (.int ((x5 &&& (2147483647 : Int32)) % (5 : Int32))), .val (.ref b1), .val (.int (0 : Int32)), .unset] [])
      refine Go.of (fun _ k => XS.aload X5.here hx rfl (hb hby at_123) rfl rfl k) ?_
      show Go p e below _ T5 (mkF m 125 #[.val (.int x0), .val (.int x1), .val (.int x2), .val (.int x3), .val (.int x4), .val (.int x5), .val (.int c0), .val (.int c1), .val (.int c2), .val (.int (x3.toInt8.toInt32)), .val (.int ((x5 &&& (2147483647 : Int32)) % (5 : Int32))), .val (.ref b1), .val (.int (0 : Int32)), .unset] [(.ref b1)])
      refine Go.of (fun _ k => XS.iload X5.here hx rfl (hb hby at_125) rfl k) ?_
      show Go p e below _ T5 (mkF m 127 #[.val (.int x0), .val (.int x1), .val (.int x2), .val (.int x3), .val (.int x4), .val (.int x5), .val (.int c0), .val (.int c1), .val (.int c2), .val (.int (x3.toInt8.toInt32)), .val (.int ((x5 &&& (2147483647 : Int32)) % (5 : Int32))), .val (.ref b1), .val (.int (0 : Int32)), .unset] [(.int ((x5 &&& (2147483647 : Int32)) % (5 : Int32))), (.ref b1)])
      refine Go.callSP (W := 0) (y := (⟨"com/example/joulepath/joulepath/trace/Utf8Text", "markLength", "([BI)I"⟩ : MethodName)) (argsL := [(.ref b1), (.int ((x5 &&& (2147483647 : Int32)) % (5 : Int32)))]) (rest := []) (r := some (.int (own_mark (nar .byte c0) (nar .byte c1) (nar .byte c2) ((x5 &&& (2147483647 : Int32)) % (5 : Int32))))) X5 hx hZ hown (hw _ (List.mem_of_getElem? (i := 2) rfl)) (hw _ (List.mem_of_getElem? (i := 3) rfl)) (hw _ (List.mem_of_getElem? (i := 4) rfl)) (hw _ (List.mem_of_getElem? (i := 5) rfl)) (by decide) (own_rmK l Z a0 hw b1 ((x5 &&& (2147483647 : Int32)) % (5 : Int32)) (nar .byte c0) (nar .byte c1) (nar .byte c2) (nar .byte (x3.toInt8.toInt32)) k1 kb bm h5 V5 (((((VB.ext E1).other W2 (Nat.ne_of_lt lt_bm_b1)).other W3 (Nat.ne_of_lt lt_bm_b1)).other W4 (Nat.ne_of_lt lt_bm_b1)).other W5 (Nat.ne_of_lt lt_bm_b1)) (((((SB.ext E1).wr W2).wr W3).wr W4).wr W5)) e5 (by rw [hml]; rfl) (lenOf own_dsc0 rfl) (hb hby at_127) rfl (Nat.le_of_eq rfl) (by decide) (by decide) (by decide) (by decide) fun T10 X10 e10 => ?_
      show Go p e below _ T10 (mkF m 130 #[.val (.int x0), .val (.int x1), .val (.int x2), .val (.int x3), .val (.int x4), .val (.int x5), .val (.int c0), .val (.int c1), .val (.int c2), .val (.int (x3.toInt8.toInt32)), .val (.int ((x5 &&& (2147483647 : Int32)) % (5 : Int32))), .val (.ref b1), .val (.int (0 : Int32)), .unset] [(.int (own_mark (nar .byte c0) (nar .byte c1) (nar .byte c2) ((x5 &&& (2147483647 : Int32)) % (5 : Int32))))])
      refine Go.of (fun _ k => XS.istore X10.here hx rfl (hb hby at_130) rfl (l' := #[.val (.int x0), .val (.int x1), .val (.int x2), .val (.int x3), .val (.int x4), .val (.int x5), .val (.int c0), .val (.int c1), .val (.int c2), .val (.int (x3.toInt8.toInt32)), .val (.int ((x5 &&& (2147483647 : Int32)) % (5 : Int32))), .val (.ref b1), .val (.int (0 : Int32)), .val (.int (own_mark (nar .byte c0) (nar .byte c1) (nar .byte c2) ((x5 &&& (2147483647 : Int32)) % (5 : Int32))))]) rfl k) ?_
      show Go p e below _ T10 (mkF m 132 #[.val (.int x0), .val (.int x1), .val (.int x2), .val (.int x3), .val (.int x4), .val (.int x5), .val (.int c0), .val (.int c1), .val (.int c2), .val (.int (x3.toInt8.toInt32)), .val (.int ((x5 &&& (2147483647 : Int32)) % (5 : Int32))), .val (.ref b1), .val (.int (0 : Int32)), .val (.int (own_mark (nar .byte c0) (nar .byte c1) (nar .byte c2) ((x5 &&& (2147483647 : Int32)) % (5 : Int32))))] [])
      refine Go.of (fun _ k => XS.iload X10.here hx rfl (hb hby at_132) rfl k) ?_
      show Go p e below _ T10 (mkF m 134 #[.val (.int x0), .val (.int x1), .val (.int x2), .val (.int x3), .val (.int x4), .val (.int x5), .val (.int c0), .val (.int c1), .val (.int c2), .val (.int (x3.toInt8.toInt32)), .val (.int ((x5 &&& (2147483647 : Int32)) % (5 : Int32))), .val (.ref b1), .val (.int (0 : Int32)), .val (.int (own_mark (nar .byte c0) (nar .byte c1) (nar .byte c2) ((x5 &&& (2147483647 : Int32)) % (5 : Int32))))] [(.int (own_mark (nar .byte c0) (nar .byte c1) (nar .byte c2) ((x5 &&& (2147483647 : Int32)) % (5 : Int32))))])
      refine Go.of (fun _ k => XS.iload X10.here hx rfl (hb hby at_134) rfl k) ?_
      show Go p e below _ T10 (mkF m 136 #[.val (.int x0), .val (.int x1), .val (.int x2), .val (.int x3), .val (.int x4), .val (.int x5), .val (.int c0), .val (.int c1), .val (.int c2), .val (.int (x3.toInt8.toInt32)), .val (.int ((x5 &&& (2147483647 : Int32)) % (5 : Int32))), .val (.ref b1), .val (.int (0 : Int32)), .val (.int (own_mark (nar .byte c0) (nar .byte c1) (nar .byte c2) ((x5 &&& (2147483647 : Int32)) % (5 : Int32))))] [(.int (0 : Int32)), (.int (own_mark (nar .byte c0) (nar .byte c1) (nar .byte c2) ((x5 &&& (2147483647 : Int32)) % (5 : Int32))))])
      refine Go.of (fun _ k => XS.icmpNo X10.here hx rfl (hb hby at_136) rfl (teq (by rw [own_byteIf hu_c0 rfl, own_byteIf hu_c1 rfl, own_byteIf hu_c2 rfl]; simp [own_mark, hc96, hc103] : (own_mark (nar .byte c0) (nar .byte c1) (nar .byte c2) ((x5 &&& (2147483647 : Int32)) % (5 : Int32))) = (0 : Int32))).2 k) ?_
      show Go p e below _ T10 (mkF m 139 #[.val (.int x0), .val (.int x1), .val (.int x2), .val (.int x3), .val (.int x4), .val (.int x5), .val (.int c0), .val (.int c1), .val (.int c2), .val (.int (x3.toInt8.toInt32)), .val (.int ((x5 &&& (2147483647 : Int32)) % (5 : Int32))), .val (.ref b1), .val (.int (0 : Int32)), .val (.int (own_mark (nar .byte c0) (nar .byte c1) (nar .byte c2) ((x5 &&& (2147483647 : Int32)) % (5 : Int32))))] [])
      refine Go.of (fun _ k => XS.iconst X10.here hx rfl (hb hby at_139) k) ?_
      show Go p e below _ T10 (mkF m 140 #[.val (.int x0), .val (.int x1), .val (.int x2), .val (.int x3), .val (.int x4), .val (.int x5), .val (.int c0), .val (.int c1), .val (.int c2), .val (.int (x3.toInt8.toInt32)), .val (.int ((x5 &&& (2147483647 : Int32)) % (5 : Int32))), .val (.ref b1), .val (.int (0 : Int32)), .val (.int (own_mark (nar .byte c0) (nar .byte c1) (nar .byte c2) ((x5 &&& (2147483647 : Int32)) % (5 : Int32))))] [(.int (1 : Int32))])
      refine Go.of (fun _ k => XS.goto X10.here hx rfl (pc0 := 140) (pc' := 144) rfl (hb hby at_140) (by decide) (by decide) k) ?_
      show Go p e below _ T10 (mkF m 144 #[.val (.int x0), .val (.int x1), .val (.int x2), .val (.int x3), .val (.int x4), .val (.int x5), .val (.int c0), .val (.int c1), .val (.int c2), .val (.int (x3.toInt8.toInt32)), .val (.int ((x5 &&& (2147483647 : Int32)) % (5 : Int32))), .val (.ref b1), .val (.int (0 : Int32)), .val (.int (own_mark (nar .byte c0) (nar .byte c1) (nar .byte c2) ((x5 &&& (2147483647 : Int32)) % (5 : Int32))))] [(.int (1 : Int32))])
      exact Go.retN X10 hx hlk (t := .boolean) hret (by simp) (hb hby at_144) (by decide) (by decide) ⟨rfl, N5⟩
set_option maxRecDepth 65536 in
set_option maxHeartbeats 40000000 in
theorem comes_1 {Post : Tables → Env → Array Value → State → Outcome → State → Prop} (hpost : ∀ tb e args s v u, (limb_1_1.after args s (.returned v) u = true ∧ limb_1_2.after args s (.returned v) u = true ∧ True) → FrameEnd s (.returned v) u (Jvm.fieldLocs frame_1_writes args s ++ Jvm.arrayLocs frame_1_arrays args s ++ Jvm.staticLocs frame_1_statics s) 16 128 → Post tb e args s (.returned v) u) :
    ArmFor flags0 classFile x code maxLocals ret World_1 tables_1 room_1 Calls_1 rest_1 Pre_1 Post := by
  intro l hfl _ _ p e ha hc hk s m args below hf hA hF happ hP
  obtain ⟨hcalls, hrest, hpre⟩ := hP
  obtain ⟨-, -, -, hnamed, -, -, -, hat⟩ := (Spec.applies_iff hf).mp happ
  obtain ⟨hg, hn⟩ := and_e (Cond.before_iff.mp (show (Jvm.Cond.and given_1 narrow_1).before args s = true from hpre))
  obtain ⟨g0, gg0⟩ := and_e hg
  obtain ⟨ga0, gg1⟩ := and_e gg0
  obtain ⟨ga1, gg2⟩ := and_e gg1
  obtain ⟨ga2, gg3⟩ := and_e gg2
  obtain ⟨ga3, gg4⟩ := and_e gg3
  obtain ⟨ga4, gg5⟩ := and_e gg4
  have ga5 := gg5
  obtain ⟨w0, w1, w2, w3, w4, w5, rfl⟩ : ∃ w0 w1 w2 w3 w4 w5 : Value, args = #[w0, w1, w2, w3, w4, w5] := by
    have hs : args.size = 6 := by simpa [Cond.value, given_1] using g0
    obtain ⟨L⟩ := args
    match L, hs with
    | [w0, w1, w2, w3, w4, w5], _ => exact ⟨w0, w1, w2, w3, w4, w5, rfl⟩
  have hw := fun d (hd : d ∈ tables_1) => atoms_spec (ws := Jvm.Cond.code x code maxLocals ret :: tables_1) hat d (List.mem_cons_of_mem _ hd)
  have hfit : Fit s := fun {y c} hc i hi => by
    obtain ⟨ha, rfl⟩ := Array.getElem?_eq_some_iff.mp hc
    have q := List.all_eq_true.mp ((Array.all_eq_true_iff_forall_mem.mp hF) _ (Array.getElem_mem ha)) i (List.mem_range.mpr hi)
    simpa [Array.getElem?_eq_getElem hi] using q
  obtain ⟨i0, ei0⟩ := is_v ga0
  obtain rfl : w0 = (.int i0) := Option.some.inj ei0
  obtain ⟨i1, ei1⟩ := is_v ga1
  obtain rfl : w1 = (.int i1) := Option.some.inj ei1
  obtain ⟨i2, ei2⟩ := is_v ga2
  obtain rfl : w2 = (.int i2) := Option.some.inj ei2
  obtain ⟨i3, ei3⟩ := is_v ga3
  obtain rfl : w3 = (.int i3) := Option.some.inj ei3
  obtain ⟨i4, ei4⟩ := is_v ga4
  obtain rfl : w4 = (.int i4) := Option.some.inj ei4
  obtain ⟨i5, ei5⟩ := is_v ga5
  obtain rfl : w5 = (.int i5) := Option.some.inj ei5
  obtain ⟨n1, hn⟩ := and_e hn
  obtain ⟨n2, hn⟩ := and_e hn
  obtain ⟨n3, hn⟩ := and_e hn
  obtain ⟨n4, n5⟩ := and_e hn
  obtain ⟨bm, ebm⟩ := arr_v n1
  obtain ⟨cb, AB⟩ := Arr.start ebm n1
  have SB : Sta s s.heap "com/example/joulepath/joulepath/trace/Utf8Text" "BYTE_ORDER_MARK" "[B" (.ref bm) := Sta.start ebm (Or.inr ⟨hw _ (List.mem_of_getElem? (i := 4) rfl), hw _ (List.mem_of_getElem? (i := 7) rfl)⟩)
  have hlen : cb.slots.size < 2 ^ 31 ∧ cb.slots.size.toInt32 = 3 := own_len ebm AB n2
  have he0 := own_elem ebm AB n3
  have he1 := own_elem ebm AB n4
  have he2 := own_elem ebm AB n5
  have VB : Arv s s.heap bm cb.cls .byte 3 [.int (-17), .int (-69), .int (-65)] (.int (0 : Int32)) := Arv.start hfit AB hlen.1 hlen.2 (by decide) rfl ⟨he0, he1, he2, trivial⟩
  obtain ⟨n, o, h1, h2, h3, _, L, rfl, ⟨rfl, N⟩, hq⟩ := rm0 l s _ hw tables_1 i0 i1 i2 i3 i4 i5 cb.cls bm s.heap VB SB p e ha hc hk s m _ below hf ((Spec.applies_iff_loose hf).mp happ).1 ⟨rfl, State.Warmed39.refl s, rfl⟩ trivial
  refine ⟨n, _, h1, h2, h3, hpost _ _ _ _ _ _ ⟨Cond.after_iff.mpr rfl, Cond.after_iff.mpr (eq_i res_at (Term.int_eval (1)) rfl), trivial⟩ ⟨hq.1, hq.2.1, (hq.2.2.sift fun y hy => Or.inr (N y hy)).mono (by decide) (by decide)⟩⟩
theorem main_1_1 : Claimed_1_1 := comes_1 fun _ _ _ _ _ _ h hF => ⟨h.1, hF⟩
theorem main_1_2 : Claimed_1_2 := comes_1 fun _ _ _ _ _ _ h hF => ⟨h.2.1, hF⟩
end Jvm.Pilot.@@N@@
namespace Jvm.Pilot.@@N@@
open Jvm Jvm.ClassFile Sem Op Lib Jvm.Free Jvm.Stand Jvm.Pilot.@@N@@.Jvm.D
/-! MADE BY PROGRAM (witnessworld.py) out of the Statement's table words and the real class files: 9 classes; the members and pool entries that the words name. The judged class is class 1, her method 1. -/
namespace start1
open Jvm.ClassFile
def u (s : String) : CpInfo := .utf8 (stringToUtf16 s)
/-- a pool by its gaps: so many unusable entries, then the entry; so many at the end -/
def gap : Nat → List CpInfo → List CpInfo
  | 0, r => r
  | n + 1, r => .unusable :: gap n r
def poolList (es : List (Nat × CpInfo)) (last : Nat) : List CpInfo := es.foldr (fun e r => gap e.1 (e.2 :: r)) (gap last [])
def pool (es : List (Nat × CpInfo)) (last : Nat) : Array CpInfo := ⟨poolList es last⟩
def fileOf (pool : Array CpInfo) (this : Nat) (attrs : Array Attribute := #[]) (ms : Array MethodInfo := #[]) (fl : Nat := 33) (sup : Nat := 0) (ifs : Array Nat := #[]) (fds : Array FieldInfo := #[]) : ClassFile where
  minorVersion := 0
  majorVersion := 65
  constantPool := pool
  accessFlags := fl
  thisClass := this
  superClass := sup
  interfaces := ifs
  fields := fds
  methods := ms
  attributes := attrs
def plain (name : String) (sup : Option ClassId) : Class where
  name := name
  kind := .ordinary
  loader := none
  accessFlags := 33
  super := sup
  interfaces := #[]
  cf := none
  fields := #[]
  methods := #[]
  instanceTypes := #[]
  staticTypes := #[]
  resolved := #[]
  callSites := []
  init := .initialized
  statics := none
  mirror := none

def pool0 : Array CpInfo := pool [(5, u "<init>"), (0, u "()V"), (1, .class_ 10), (1, u "java/lang/Object")] 113

def k0m0 : Method := { name := "<init>", desc := "()V", sig := { parameters := [], returnType := none }, accessFlags := 1, code := none }
/-- java/lang/Object -/
def k0 : Class := { plain "java/lang/Object" none with
  accessFlags := 33
  interfaces := #[]
  cf := some (fileOf pool0 8 #[] #[{ accessFlags := 1, nameIndex := 5, descriptorIndex := 6, attributes := #[] }] 33 0 #[] #[])
  fields := #[]
  methods := #[k0m0]
  instanceTypes := #[]
  staticTypes := #[]
  resolved := Array.replicate 124 none
  statics := none }

def pool1 : Array CpInfo := pool [(2, .class_ 4), (1, u "java/lang/Object"), (0, u "<init>"), (0, u "()V"), (0, .integer 2147483647), (0, .methodref 9 10), (0, .class_ 11), (0, .nameAndType 12 13), (0, u "com/example/joulepath/joulepath/trace/Utf8Text"), (0, u "markLength"), (0, u "([BI)I"), (0, .class_ 15), (0, u "com/example/joulepath/joulepath/trace/Utf8TextMarkLengthPinLaw"), (2, u "law"), (0, u "(IIIIII)Z")] 5

def k1m0 : Method := { name := "<init>", desc := "()V", sig := { parameters := [], returnType := none }, accessFlags := 1, code := none }
def k1c1 : Code := { maxStack := 3, maxLocals := 14, code := code, exceptionTable := #[], attributes := #[] }
def k1m1 : Method := { name := "law", desc := "(IIIIII)Z", sig := { parameters := [.int, .int, .int, .int, .int, .int], returnType := some .boolean }, accessFlags := 9, code := some k1c1 }
/-- com/example/joulepath/joulepath/trace/Utf8TextMarkLengthPinLaw -/
def k1 : Class := { plain "com/example/joulepath/joulepath/trace/Utf8TextMarkLengthPinLaw" (some 0) with
  accessFlags := 49
  interfaces := #[]
  cf := some (fileOf pool1 14 #[] #[{ accessFlags := 1, nameIndex := 5, descriptorIndex := 6, attributes := #[] }, { accessFlags := 9, nameIndex := 18, descriptorIndex := 19, attributes := #[] }] 49 2 #[] #[])
  fields := #[]
  methods := #[k1m0, k1m1]
  instanceTypes := #[]
  staticTypes := #[]
  resolved := Array.replicate 25 none
  statics := none }

def pool2 : Array CpInfo := pool [(2, .class_ 4), (1, u "java/lang/Object"), (0, u "<init>"), (0, u "()V"), (13, .class_ 22), (1, u "com/example/joulepath/joulepath/trace/Utf8Text"), (0, u "decoder"), (0, u "Ljava/nio/charset/CharsetDecoder;"), (2, u "malformedAt"), (0, u "I"), (0, .fieldref 20 30), (0, .nameAndType 31 32), (0, u "BYTE_ORDER_MARK"), (0, u "[B"), (57, u "NOT_UTF8"), (0, u "Ljava/lang/String;"), (5, u "markLength"), (0, u "([BI)I")] 6

def k2m0 : Method := { name := "<init>", desc := "()V", sig := { parameters := [], returnType := none }, accessFlags := 1, code := none }
def k2c1 : Code := { maxStack := 3, maxLocals := 3, code := prog_283_method_2_code, exceptionTable := #[], attributes := #[] }
def k2m1 : Method := { name := "markLength", desc := "([BI)I", sig := { parameters := [(.array .byte), .int], returnType := some .int }, accessFlags := 9, code := some k2c1 }
/-- com/example/joulepath/joulepath/trace/Utf8Text -/
def k2 : Class := { plain "com/example/joulepath/joulepath/trace/Utf8Text" (some 0) with
  accessFlags := 49
  interfaces := #[]
  cf := some (fileOf pool2 20 #[] #[{ accessFlags := 1, nameIndex := 5, descriptorIndex := 6, attributes := #[] }, { accessFlags := 9, nameIndex := 97, descriptorIndex := 98, attributes := #[] }] 49 2 #[] #[{ accessFlags := 25, nameIndex := 90, descriptorIndex := 91, attributes := #[] }, { accessFlags := 26, nameIndex := 31, descriptorIndex := 32, attributes := #[] }, { accessFlags := 18, nameIndex := 23, descriptorIndex := 24, attributes := #[] }, { accessFlags := 2, nameIndex := 27, descriptorIndex := 28, attributes := #[] }])
  fields := #[{ name := "NOT_UTF8", type := (.object "java/lang/String"), accessFlags := 25, slot := 0, constantValue := 0 }, { name := "BYTE_ORDER_MARK", type := (.array .byte), accessFlags := 26, slot := 1, constantValue := 0 }, { name := "decoder", type := (.object "java/nio/charset/CharsetDecoder"), accessFlags := 18, slot := 0, constantValue := 0 }, { name := "malformedAt", type := .int, accessFlags := 2, slot := 1, constantValue := 0 }]
  methods := #[k2m0, k2m1]
  instanceTypes := #[(.object "java/nio/charset/CharsetDecoder"), .int]
  staticTypes := #[(.object "java/lang/String"), (.array .byte)]
  resolved := Array.replicate 105 none
  statics := some 0 }

def pool3 : Array CpInfo := pool [(1, u "java/lang/Cloneable"), (0, .class_ 1), (0, u "java/lang/Object"), (0, .class_ 3)] 3

/-- java/lang/Cloneable -/
def k3 : Class := { plain "java/lang/Cloneable" (some 0) with
  accessFlags := 1537
  interfaces := #[]
  cf := some (fileOf pool3 2 #[] #[] 1537 4 #[] #[])
  fields := #[]
  methods := #[]
  instanceTypes := #[]
  staticTypes := #[]
  resolved := Array.replicate 8 none
  statics := none }

def pool4 : Array CpInfo := pool [(1, u "java/io/Serializable"), (0, .class_ 1), (0, u "java/lang/Object"), (0, .class_ 3)] 3

/-- java/io/Serializable -/
def k4 : Class := { plain "java/io/Serializable" (some 0) with
  accessFlags := 1537
  interfaces := #[]
  cf := some (fileOf pool4 2 #[] #[] 1537 4 #[] #[])
  fields := #[]
  methods := #[]
  instanceTypes := #[]
  staticTypes := #[]
  resolved := Array.replicate 8 none
  statics := none }

/-- the primitive byte -/
def k5 : Class := { plain "byte" none with kind := .primitive 'B', accessFlags := 0x411 }
/-- [B -/
def k6 : Class := { plain "[B" (some 0) with kind := .array 5 .byte, interfaces := #[3, 4], accessFlags := 1041 }

/-- the primitive int -/
def k7 : Class := { plain "int" none with kind := .primitive 'I', accessFlags := 0x411 }
/-- [I -/
def k8 : Class := { plain "[I" (some 0) with kind := .array 7 .int, interfaces := #[3, 4], accessFlags := 1041 }

def heap : Heap := #[{ cls := 2, slots := #[.null, .ref 1], vm := .statics 2 },
  { cls := 6, slots := #[.int (-17), .int (-69), .int (-65)], vm := .none }]
def classes : Array Class := #[k0, k1, k2, k3, k4, k5, k6, k7, k8]
def interned : List (Array UInt16 × Addr) := []
def slotsUsed : Nat := 5
def theMethod : MethodId := ⟨1, 1⟩
def args0 : Array Value := #[.int 5, .int 7, .int 3, .int 2, .int 1, .int 4]
def aboutOver (below : List Frame) : State where
  vm := { classes := classes, interned := interned.toArray }
  heap := heap
  slotsUsed := slotsUsed
  threads := #[{ frames := .invoking theMethod args0 :: below }]
def below0 : List Frame := [.native { method := ⟨0, 0⟩, args := #[] }]
def about1 : State := aboutOver below0
def p0 : Program := .bare "" "" ""
def e0 : Env := launch0.env 0 0 0
theorem w_frames : about1.frames = Frame.invoking theMethod args0 :: below0 := rfl
set_option maxRecDepth 65536 in
theorem w_args : argsFit about1.vm theMethod args0 = true := by decide +kernel
set_option maxRecDepth 65536 in
theorem w_heap : heapFits about1 = true := by decide +kernel
set_option maxRecDepth 65536 in
theorem w_runnable : about1.curStatus? = some .runnable := by decide +kernel
set_option maxRecDepth 65536 in
theorem w_alone : about1.alone = true := by decide +kernel
set_option maxRecDepth 65536 in
theorem w_named : about1.methodNamed? x = some theMethod := by decide +kernel
set_option maxRecDepth 65536 in
theorem w_hears : about1.hears theMethod below0 = true := by decide +kernel
set_option maxRecDepth 65536 in
theorem w_ripe : about1.ripe theMethod args0 below0 = true := by decide +kernel
theorem w_running : about1.status = .running := rfl
set_option maxRecDepth 65536 in
theorem w_room : about1.hasRoom e0.platform room_1 = true :=
  launch0.hasRoom_least _ room_1 (by decide +kernel) (by decide +kernel) (by decide +kernel) (by decide +kernel) (by decide +kernel) (by decide +kernel)
theorem allAtoms_all (ts : List Jvm.Cond) (a : Array Jvm.Value) (st : Jvm.State) : (allAtoms ts).before a st = ts.all (fun c => c.before a st) := by
  induction ts with
  | nil => rfl
  | cons c t ih =>
    show (Jvm.Cond.and c (allAtoms t)).before a st = _
    rw [Jvm.Cond.before_and, ih, List.all_cons]
def words1 : List Jvm.Cond := Jvm.Cond.code x code maxLocals ret :: tables_1
/-- a 'code' word, met by the world's own term for the bytes: nothing is compared byte by byte -/
theorem code_word {y : MethodName} {bytes : ByteArray} {mx : Nat} {rt : Option FieldType} {a : Array Value} {s : State} {m : MethodId} {meth : Method} {c : Code} (h1 : s.methodNamed? y = some m) (h2 : s.vm.method? m = some meth) (h3 : meth.code = some c) (h4 : c.code = bytes)
    (h5 : (c.maxLocals == mx && c.exceptionTable.isEmpty && decide (c.maxStack ≤ mostOperands) && decide (meth.sig.returnType = rt) && !meth.locks && decide (parseMethodDescriptor y.desc = some meth.sig)) = true) : (Jvm.Cond.code y bytes mx rt).before a s = true := by
  simp only [Bool.and_eq_true, beq_iff_eq, Bool.not_eq_true', decide_eq_true_eq] at h5
  obtain ⟨⟨⟨⟨⟨g1, g2⟩, g3⟩, g4⟩, g5⟩, g6⟩ := h5
  simp [Cond.before, Cond.holds, Cond.value, h1, h2, h3, h4, g1, g2, g3, g4, g5, g6]
def isCode : Jvm.Cond → Bool
  | .code _ _ _ _ => true
  | _ => false
theorem all_split {L : List Jvm.Cond} {P : Jvm.Cond → Bool} (h1 : L.all (fun c => isCode c || P c) = true) (h2 : ∀ c ∈ L.filter isCode, P c = true) : L.all P = true := by
  refine List.all_eq_true.mpr fun c hc => ?_
  have h := List.all_eq_true.mp h1 c hc
  rcases Bool.eq_false_or_eq_true (isCode c) with hi | hi
  · exact h2 c (List.mem_filter.mpr ⟨hc, hi⟩)
  · simpa [hi] using h
set_option maxRecDepth 65536 in
theorem w_c0 : (Jvm.Cond.code x code maxLocals ret).before args0 about1 = true := code_word (m := ⟨1, 1⟩) (meth := k1m1) (c := k1c1) (by decide +kernel) rfl rfl rfl (by decide +kernel)
set_option maxRecDepth 65536 in
theorem w_c1 : (Jvm.Cond.code ({ cls := "com/example/joulepath/joulepath/trace/Utf8Text", name := "markLength", desc := "([BI)I" } : Jvm.MethodName) prog_283_method_2_code (3 : Nat) (Option.some Jvm.ClassFile.FieldType.int)).before args0 about1 = true := code_word (m := ⟨2, 1⟩) (meth := k2m1) (c := k2c1) (by decide +kernel) rfl rfl rfl (by decide +kernel)
def codes1 : List Jvm.Cond := [Jvm.Cond.code x code maxLocals ret, Jvm.Cond.code ({ cls := "com/example/joulepath/joulepath/trace/Utf8Text", name := "markLength", desc := "([BI)I" } : Jvm.MethodName) prog_283_method_2_code (3 : Nat) (Option.some Jvm.ClassFile.FieldType.int)]
set_option maxRecDepth 65536 in
theorem codes_eq : words1.filter isCode = codes1 := rfl
theorem w_codes : ∀ c ∈ words1.filter isCode, c.before args0 about1 = true := by
  rw [codes_eq]
  intro c hc
  simp only [codes1, List.mem_cons, List.not_mem_nil, or_false] at hc
  rcases hc with rfl | rfl
  · exact w_c0
  · exact w_c1
set_option maxRecDepth 65536 in
theorem w_t1 : words1.all (fun c => isCode c || c.before args0 about1) = true := by decide +kernel
theorem w_tables : (allAtoms (Jvm.Cond.code x code maxLocals ret :: tables_1)).before args0 about1 = true := by
  rw [allAtoms_all]
  show words1.all (fun c => c.before args0 about1) = true
  refine all_split ?_ w_codes
  rw [w_t1]
set_option maxRecDepth 65536 in
theorem w_case : (Jvm.Cond.and given_1 narrow_1).before args0 about1 = true := by decide +kernel
theorem w_applies : (headSpec (Jvm.Cond.code x code maxLocals ret :: tables_1) room_1).applies x e0.platform about1 = true :=
  (Spec.applies_iff w_frames).mpr ⟨w_running, w_runnable, w_alone, w_named, w_hears, w_ripe, w_room, w_tables⟩
theorem atStart : AtStart classFile x code maxLocals ret World_1 tables_1 room_1 Calls_1 rest_1 Pre_1 launch0 p0 e0 about1 theMethod args0 below0 :=
  ⟨lists_1, trivial, launch0.admits_env _ _ _, launch0.least_env, fairChoices_fair.cas, fairChoices_fair.clock, w_frames, w_args, w_heap, w_applies, trivial, trivial, w_case⟩
end start1
theorem witness_1 : WitnessClaimed_1 := ⟨start1.p0, start1.e0, start1.about1, start1.theMethod, start1.args0, start1.below0, start1.atStart⟩
end Jvm.Pilot.@@N@@
