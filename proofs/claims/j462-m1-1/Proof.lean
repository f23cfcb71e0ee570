import JvmDerived
import JvmDerived.Pilot.@@N@@Statement
import JvmDerived.Pilot.@@N@@Code
set_option linter.unusedVariables false
set_option linter.unusedSimpArgs false
namespace Jvm.Free.XS
/-- lcmp's int; iushr's int -/
def cmpL (x y : Int64) : Int32 := if x > y then 1 else if x = y then 0 else -1
def ushr (x y : Int32) : Int32 := (x.toUInt32 >>> (y &&& 31).toUInt32).toInt32
end Jvm.Free.XS
@@BLOCK:NumsL.lean.txt@@
namespace Jvm.RoadKit
open Sem ClassFile Op Lib Jvm.Stand Jvm.Free Jvm.LawKit
section Going
variable {p : Program} {l : Launch} {e : Env} {R : Room} {s : State} {m : MethodId} {args : Array Value} {below : List Frame} {meth : Method} {c : Code} {T T' : State} {locs : List Loc} {cells slots : Nat} {K N : Nat} {Q : Option Value → Heap → List Loc → Prop} {F : Option Value → State → Prop} {g g' : JFrame} {Z : State} {a0 : Array Value} {h : Heap}
/-- from this frame the run comes to the method's return, with what F says of the value and the end -/
def Go (p : Program) (e : Env) (below : List Frame) (F : Option Value → State → Prop) (T : State) (g : JFrame) : Prop :=
  ∃ s₂ o, Steps p.tables e below (T.setTop g) s₂ ∧ s₂.status = .running ∧ Ended s₂ below o ∧ ∃ v, o = .returned v ∧ F v s₂
/-- what is said of an end: Q of the value, the heap and the places written; and the frame -/
def GoEnd (s : State) (K N : Nat) (Q : Option Value → Heap → List Loc → Prop) (v : Option Value) (t : State) : Prop := ∃ L, Q v t.heap L ∧ FrameEnd s (.returned v) t L K N
theorem Go.of (q : ∀ t, Steps p.tables e below (T'.setTop g') t → Steps p.tables e below (T.setTop g) t) (k : Go p e below F T' g') : Go p e below F T g := by
  obtain ⟨s₂, o, h1, r⟩ := k; exact ⟨s₂, o, q _ h1, r⟩
theorem Go.via (q : Steps p.tables e below (T.setTop g) (T'.setTop g')) (k : Go p e below F T' g') : Go p e below F T g := Go.of (fun _ r => q.trans r) k
theorem Go.cast (q : g = g') (k : Go p e below F T g') : Go p e below F T g := q ▸ k
/-- a body's contract out of its walk -/
theorem goBody {y : MethodName} {bytes : ByteArray} {maxL : Nat} {ret : Option FieldType} {ws : List Cond} {rm : Room} {as' : Array Value} (hp : plainFor y = true)
    (body : ∀ p e s m below meth c s₁, p.tables.exec = Jvm.exec → Z.Warmed39 s.vm → c.code = bytes → c.maxLocals = maxL → s.vm.findClass y.cls = some m.cls → meth.name = y.name → meth.sig.returnType = ret → meth.locks = false →
      Stand p l e rm s m as' below meth c s₁ [] 0 0 → s₁.heap = h → Go p e below (GoEnd s rm.cells rm.slots Q) s₁ (entryFrame m as' maxL)) :
    MetFree l y (head1 (Cond.code y bytes maxL ret :: ws) rm) (fun a U => a = as' ∧ Z.Warmed39 U.vm ∧ U.heap = h) (fun _ _ _ _ _ => True) (fun _ U o U' => ∃ v L, o = .returned v ∧ Q v U'.heap L ∧ FrameEnd U o U' L rm.cells rm.slots) := by
  refine MetFree.of_bodySF hp hisR ?_
  intro p e s m args below meth c s₁ Bd hml hP hK
  obtain ⟨rfl, hZ, hh⟩ := hP
  obtain ⟨s₂, o, h1, h2, h3, v, rfl, L, h4, h5⟩ := body p e s m below meth c s₁ Bd.exec hZ Bd.bytes hml (findClass_of_methodNamed Bd.named) (name_of_methodNamed Bd.named Bd.method).1 Bd.returns Bd.notSynchronized (Stand.of_body Bd) (by rw [← hh, Bd.state]; rfl)
  exact ⟨s₂, _, h1, h2, h3, v, L, rfl, h4, h5⟩
theorem Go.retI (X : Stand p l e R s m args below meth c T locs cells slots) (hx : p.tables.exec = Jvm.exec) (hlk : meth.locks = false) {pc : Nat} {Ls : Array Slot} {z : Int32} {rest : List Value} (hret : meth.sig.returnType = some .int) (hd : decode c.code pc = .ok (.ireturn, 1)) (hK : cells ≤ K) (hN : slots ≤ N) (hq : Q (some (.int z)) T.heap locs) : Go p e below (GoEnd s K N Q) T (mkF m pc Ls (.int z :: rest)) := by
  obtain ⟨fs, hr, hrun, hended, hW, hsame⟩ := X.leave (v := some (.int z)) (fun h => by rw [hret] at h; cases h) hlk
  exact ⟨_, _, retOut X hx (t := .int) (i := .ireturn) hret rfl (Or.inl ⟨rfl, Or.inl rfl, z, rfl⟩) hd hr, hrun, hended, _, rfl, _, hq, ⟨_, rfl⟩, hW, hsame.mono hK hN⟩
theorem Go.retN (X : Stand p l e R s m args below meth c T locs cells slots) (hx : p.tables.exec = Jvm.exec) (hlk : meth.locks = false) {pc : Nat} {Ls : Array Slot} {z : Int32} {t : FieldType} {rest : List Value} (hret : meth.sig.returnType = some t) (ht : t = .boolean ∨ t = .byte ∨ t = .char ∨ t = .short) (hd : decode c.code pc = .ok (.ireturn, 1)) (hK : cells ≤ K) (hN : slots ≤ N) (hq : Q (some (.int (nar t z))) T.heap locs) : Go p e below (GoEnd s K N Q) T (mkF m pc Ls (.int z :: rest)) := by
  obtain ⟨fs, hr, hrun, hended, hW, hsame⟩ := X.leave (v := some (.int (nar t z))) (fun h => by rw [hret] at h; cases h) hlk
  exact ⟨_, _, Jvm.RoadKit.retN X hx (t := t) hret ht hd hr, hrun, hended, _, rfl, _, hq, ⟨_, rfl⟩, hW, hsame.mono hK hN⟩
theorem Go.retJ (X : Stand p l e R s m args below meth c T locs cells slots) (hx : p.tables.exec = Jvm.exec) (hlk : meth.locks = false) {pc : Nat} {Ls : Array Slot} {z : Int64} {rest : List Value} (hret : meth.sig.returnType = some .long) (hd : decode c.code pc = .ok (.lreturn, 1)) (hK : cells ≤ K) (hN : slots ≤ N) (hq : Q (some (.long z)) T.heap locs) : Go p e below (GoEnd s K N Q) T (mkF m pc Ls (.long z :: rest)) := by
  obtain ⟨fs, hr, hrun, hended, hW, hsame⟩ := X.leave (v := some (.long z)) (fun h => by rw [hret] at h; cases h) hlk
  exact ⟨_, _, retOut X hx (t := .long) (i := .lreturn) hret rfl (Or.inr (Or.inl ⟨rfl, rfl, z, rfl⟩)) hd hr, hrun, hended, _, rfl, _, hq, ⟨_, rfl⟩, hW, hsame.mono hK hN⟩
theorem Go.retD (X : Stand p l e R s m args below meth c T locs cells slots) (hx : p.tables.exec = Jvm.exec) (hlk : meth.locks = false) {pc : Nat} {Ls : Array Slot} {z : UInt64} {rest : List Value} (hret : meth.sig.returnType = some .double) (hd : decode c.code pc = .ok (.dreturn, 1)) (hK : cells ≤ K) (hN : slots ≤ N) (hq : Q (some (.double z)) T.heap locs) : Go p e below (GoEnd s K N Q) T (mkF m pc Ls (.double z :: rest)) := by
  obtain ⟨fs, hr, hrun, hended, hW, hsame⟩ := X.leave (v := some (.double z)) (fun h => by rw [hret] at h; cases h) hlk
  exact ⟨_, _, retOut X hx (t := .double) (i := .dreturn) hret rfl (Or.inr (Or.inr (Or.inl ⟨rfl, rfl, z, rfl⟩))) hd hr, hrun, hended, _, rfl, _, hq, ⟨_, rfl⟩, hW, hsame.mono hK hN⟩
theorem Go.retA (X : Stand p l e R s m args below meth c T locs cells slots) (hx : p.tables.exec = Jvm.exec) (hlk : meth.locks = false) {pc : Nat} {Ls : Array Slot} {v : Value} {t : FieldType} {rest : List Value} (hret : meth.sig.returnType = some t) (ht : t.isReference = true) (hv : v.isRef = true) (hn : narrow t v = v) (hd : decode c.code pc = .ok (.areturn, 1)) (hK : cells ≤ K) (hN : slots ≤ N) (hq : Q (some v) T.heap locs) : Go p e below (GoEnd s K N Q) T (mkF m pc Ls (v :: rest)) := by
  obtain ⟨fs, hr, hrun, hended, hW, hsame⟩ := X.leave (v := some v) (fun h => by rw [hret] at h; cases h) hlk
  exact ⟨_, _, retOut X hx (t := t) (i := .areturn) hret hn (Or.inr (Or.inr (Or.inr (Or.inr ⟨rfl, ht, hv⟩)))) hd hr, hrun, hended, _, rfl, _, hq, ⟨_, rfl⟩, hW, hsame.mono hK hN⟩
theorem Go.retV (X : Stand p l e R s m args below meth c T locs cells slots) (hx : p.tables.exec = Jvm.exec) (hlk : meth.locks = false) {pc : Nat} {Ls : Array Slot} (hret : meth.sig.returnType = none) (hd : decode c.code pc = .ok (.return_, 1)) (hK : cells ≤ K) (hN : slots ≤ N) (hq : Q none T.heap locs) : Go p e below (GoEnd s K N Q) T (mkF m pc Ls []) := by
  obtain ⟨fs, hr, hrun, hended, hW, hsame⟩ := X.leave (v := none) (fun _ => rfl) hlk
  exact ⟨_, _, X.returnOut hx hret hd hr, hrun, hended, _, rfl, _, hq, ⟨_, rfl⟩, hW, hsame.mono hK hN⟩
/-- what a callee that writes and makes nothing leaves -/
def PQ (h : Heap) (r : Option Value) (v : Option Value) (h' : Heap) (L : List Loc) : Prop := v = r ∧ L = [] ∧ h' = h
/-- a contract in the form in which a call takes it -/
abbrev MetAt (l : Launch) (Z : State) (y : MethodName) (bytes : ByteArray) (maxL : Nat) (ret : Option FieldType) (rm : Room) (as' : Array Value) (h : Heap) (Q : Option Value → Heap → List Loc → Prop) : Prop :=
  MetFree l y (head1 [Cond.code y bytes maxL ret] rm) (fun a U => a = as' ∧ Z.Warmed39 U.vm ∧ U.heap = h) (fun _ _ _ _ _ => True) (fun _ U o U' => ∃ v L, o = .returned v ∧ Q v U'.heap L ∧ FrameEnd U o U' L rm.cells rm.slots)
variable {own : String} {index : Nat} {y z : MethodName} {bytes : ByteArray} {maxL W pc : Nat} {ret : Option FieldType} {rm : Room} {Qc : Option Value → Heap → List Loc → Prop} {argsL rest st : List Value} {Ls : Array Slot}
theorem Go.callS (X : Stand p l e R s m args below meth c T locs cells slots) (hx : p.tables.exec = Jvm.exec) (hZ : Z.Warmed39 s.vm) (hown : s.vm.findClass own = some m.cls)
    (wl : (Cond.methodLink own index y).before a0 Z = true) (ws : (Cond.static y).before a0 Z = true) (wz : (Cond.initialized y.cls).before a0 Z = true) (wc : (Cond.code y bytes maxL ret).before a0 Z = true)
    (hy : y.cls ≠ "java/lang/invoke/MethodHandle" ∧ y.cls ≠ "java/lang/invoke/VarHandle") (hM : MetAt l Z y bytes maxL ret rm argsL.toArray h Qc) (eT : T.heap = h) (hsize : Ls.size = c.maxLocals)
    (hlen : ∀ sig, parseMethodDescriptor y.desc = some sig → argsL.length = sig.parameters.length) (hd : decode c.code pc = .ok (.invokestatic index, 3)) (hst : st = argsL.reverse ++ rest)
    (hW : (rest.map fun v => v.category).sum ≤ W) (hf : rm.frames + 1 ≤ R.frames) (hl : W + (maxL + 11) + rm.locals ≤ R.locals) (hc : cells + rm.cells ≤ R.cells) (hs : slots + rm.slots ≤ R.slots)
    (k : ∀ v T' L', Stand p l e R s m args below meth c T' (locs ++ L') (cells + rm.cells) (slots + rm.slots) → Qc v T'.heap L' → Go p e below F T' (mkF m (pc + 3) Ls (v.toList ++ rest))) : Go p e below F T (mkF m pc Ls st) := by
  obtain ⟨v, vm₁, ⟨T', L', k', n'⟩, -, X', ⟨Lc, hQ, l1, y1, z1⟩, stp⟩ := Jvm.LawKit.callS X hx hown (mvT hZ wl) (mvT hZ ws) (mvT hZ wz) (mvT hZ wc) hy (backOf (W := W) hM hZ wc wz hf hl) (g := mkF m pc Ls st) rfl hsize hlen hst (by show 2 * 0 + _ ≤ _; omega) hd (fun _ _ => ⟨rfl, eT, hc, hs⟩)
  dsimp only [Pt.U, Pt.locs, Pt.cells, Pt.slots] at X' l1 y1 z1 stp hQ
  subst l1 y1 z1
  exact Go.of stp (k v T' Lc X' hQ)
theorem Go.callSP (X : Stand p l e R s m args below meth c T locs cells slots) (hx : p.tables.exec = Jvm.exec) (hZ : Z.Warmed39 s.vm) (hown : s.vm.findClass own = some m.cls)
    (wl : (Cond.methodLink own index y).before a0 Z = true) (ws : (Cond.static y).before a0 Z = true) (wz : (Cond.initialized y.cls).before a0 Z = true) (wc : (Cond.code y bytes maxL ret).before a0 Z = true)
    (hy : y.cls ≠ "java/lang/invoke/MethodHandle" ∧ y.cls ≠ "java/lang/invoke/VarHandle") {r : Option Value} {fr lo : Nat} (hM : MetAt l Z y bytes maxL ret { frames := fr, cells := 0, slots := 0, locals := lo } argsL.toArray h (PQ h r)) (eT : T.heap = h) (hsize : Ls.size = c.maxLocals)
    (hlen : ∀ sig, parseMethodDescriptor y.desc = some sig → argsL.length = sig.parameters.length) (hd : decode c.code pc = .ok (.invokestatic index, 3)) (hst : st = argsL.reverse ++ rest)
    (hW : (rest.map fun v => v.category).sum ≤ W) (hf : fr + 1 ≤ R.frames) (hl : W + (maxL + 11) + lo ≤ R.locals) (hc : cells ≤ R.cells) (hs : slots ≤ R.slots)
    (k : ∀ T', Stand p l e R s m args below meth c T' locs cells slots → T'.heap = h → Go p e below F T' (mkF m (pc + 3) Ls (r.toList ++ rest))) : Go p e below F T (mkF m pc Ls st) := by
  refine Go.callS X hx hZ hown wl ws wz wc hy hM eT hsize hlen hd hst hW hf hl hc hs fun v T' L' X' q => ?_
  obtain ⟨rfl, rfl, e'⟩ := q
  rw [List.append_nil] at X'
  exact k T' X' e'
theorem Go.callI (X : Stand p l e R s m args below meth c T locs cells slots) (hx : p.tables.exec = Jvm.exec) (hZ : Z.Warmed39 s.vm) (hy1 : y.name = "<init>") (hown : s.vm.findClass own = some m.cls)
    (wl : (Cond.methodLink own index y).before a0 Z = true) (wi : (Cond.instanceMethod y).before a0 Z = true) (wz : (Cond.initialized y.cls).before a0 Z = true) (wc : (Cond.code y bytes maxL none).before a0 Z = true)
    (hy : y.cls ≠ "java/lang/invoke/MethodHandle" ∧ y.cls ≠ "java/lang/invoke/VarHandle") {a : Addr} (hM : MetAt l Z y bytes maxL none rm (.ref a :: argsL).toArray h Qc) (eT : T.heap = h) (hsize : Ls.size = c.maxLocals)
    (hlen : ∀ sig, parseMethodDescriptor y.desc = some sig → argsL.length = sig.parameters.length) (hd : decode c.code pc = .ok (.invokespecial index, 3)) (hst : st = argsL.reverse ++ .ref a :: rest)
    (hW : (rest.map fun v => v.category).sum ≤ W) (hf : rm.frames + 1 ≤ R.frames) (hl : W + (maxL + 11) + rm.locals ≤ R.locals) (hc : cells + rm.cells ≤ R.cells) (hs : slots + rm.slots ≤ R.slots)
    (k : ∀ v T' L', Stand p l e R s m args below meth c T' (locs ++ L') (cells + rm.cells) (slots + rm.slots) → Qc v T'.heap L' → Go p e below F T' (mkF m (pc + 3) Ls (v.toList ++ rest))) : Go p e below F T (mkF m pc Ls st) := by
  obtain ⟨v, vm₁, ⟨T', L', k', n'⟩, -, X', ⟨Lc, hQ, l1, y1, z1⟩, stp⟩ := X.specialBack hx hy1 hown (mvT hZ wl) (mvT hZ wi) (mvT hZ wc) hy (backOf (W := W) hM hZ wc wz hf hl) (g := mkF m pc Ls st) rfl hsize (Steps.refl _) (a := a) hlen hst (by show 2 * 0 + _ ≤ _; omega) hd (fun _ _ => ⟨rfl, eT, hc, hs⟩)
  dsimp only [Pt.U, Pt.locs, Pt.cells, Pt.slots] at X' l1 y1 z1 stp hQ
  subst l1 y1 z1
  exact Go.via stp (k v T' Lc X' hQ)
theorem Go.callV (X : Stand p l e R s m args below meth c T locs cells slots) (hx : p.tables.exec = Jvm.exec) (hZ : Z.Warmed39 s.vm) (hown : s.vm.findClass own = some m.cls) {C : String}
    (wl : (Cond.methodLink own index y).before a0 Z = true) (wd : (Cond.declares y).before a0 Z = true) (hnf : NotFace s y) (wse : (Cond.selects C y z).before a0 Z = true) (wi : (Cond.instanceMethod z).before a0 Z = true) (wz : (Cond.initialized z.cls).before a0 Z = true) (wc : (Cond.code z bytes maxL ret).before a0 Z = true)
    (hy : y.cls ≠ "java/lang/invoke/MethodHandle" ∧ y.cls ≠ "java/lang/invoke/VarHandle") {a : Addr} (hM : MetAt l Z z bytes maxL ret rm (.ref a :: argsL).toArray h Qc) (eT : T.heap = h) (hE : Exa Z h a C) (hsize : Ls.size = c.maxLocals)
    (hlen : ∀ sig, parseMethodDescriptor y.desc = some sig → argsL.length = sig.parameters.length) (hd : decode c.code pc = .ok (.invokevirtual index, 3)) (hst : st = argsL.reverse ++ .ref a :: rest)
    (hW : (rest.map fun v => v.category).sum ≤ W) (hf : rm.frames + 1 ≤ R.frames) (hl : W + (maxL + 11) + rm.locals ≤ R.locals) (hc : cells + rm.cells ≤ R.cells) (hs : slots + rm.slots ≤ R.slots)
    (k : ∀ v T' L', Stand p l e R s m args below meth c T' (locs ++ L') (cells + rm.cells) (slots + rm.slots) → Qc v T'.heap L' → Go p e below F T' (mkF m (pc + 3) Ls (v.toList ++ rest))) : Go p e below F T (mkF m pc Ls st) := by
  obtain ⟨cq, kq, q1, q2, q3⟩ := isOf hZ eT hE
  obtain ⟨v, vm₁, ⟨T', L', k', n'⟩, -, X', ⟨Lc, hQ, l1, y1, z1⟩, stp⟩ := X.virtualBack hx (y := y) (z := z) hown (mvT hZ wl) (mvT hZ wd) hnf (mvT hZ wse) (mvT hZ wi) hy (backOf (W := W) hM hZ wc wz hf hl) q1 q3 (g := mkF m pc Ls st) rfl hsize (Steps.refl _) hlen hst (by show 2 * 0 + _ ≤ _; omega) hd (fun _ _ => ⟨rfl, eT, hc, hs⟩)
  dsimp only [Pt.U, Pt.locs, Pt.cells, Pt.slots] at X' l1 y1 z1 stp hQ
  subst l1 y1 z1
  exact Go.via stp (k v T' Lc X' hQ)
theorem Go.callVP (X : Stand p l e R s m args below meth c T locs cells slots) (hx : p.tables.exec = Jvm.exec) (hZ : Z.Warmed39 s.vm) (hown : s.vm.findClass own = some m.cls) {C : String}
    (wl : (Cond.methodLink own index y).before a0 Z = true) (wd : (Cond.declares y).before a0 Z = true) (hnf : NotFace s y) (wse : (Cond.selects C y z).before a0 Z = true) (wi : (Cond.instanceMethod z).before a0 Z = true) (wz : (Cond.initialized z.cls).before a0 Z = true) (wc : (Cond.code z bytes maxL ret).before a0 Z = true)
    (hy : y.cls ≠ "java/lang/invoke/MethodHandle" ∧ y.cls ≠ "java/lang/invoke/VarHandle") {a : Addr} {r : Option Value} {fr lo : Nat} (hM : MetAt l Z z bytes maxL ret { frames := fr, cells := 0, slots := 0, locals := lo } (.ref a :: argsL).toArray h (PQ h r)) (eT : T.heap = h) (hE : Exa Z h a C) (hsize : Ls.size = c.maxLocals)
    (hlen : ∀ sig, parseMethodDescriptor y.desc = some sig → argsL.length = sig.parameters.length) (hd : decode c.code pc = .ok (.invokevirtual index, 3)) (hst : st = argsL.reverse ++ .ref a :: rest)
    (hW : (rest.map fun v => v.category).sum ≤ W) (hf : fr + 1 ≤ R.frames) (hl : W + (maxL + 11) + lo ≤ R.locals) (hc : cells ≤ R.cells) (hs : slots ≤ R.slots)
    (k : ∀ T', Stand p l e R s m args below meth c T' locs cells slots → T'.heap = h → Go p e below F T' (mkF m (pc + 3) Ls (r.toList ++ rest))) : Go p e below F T (mkF m pc Ls st) := by
  refine Go.callV X hx hZ hown wl wd hnf wse wi wz wc hy hM eT hE hsize hlen hd hst hW hf hl hc hs fun v T' L' X' q => ?_
  obtain ⟨rfl, rfl, e'⟩ := q
  rw [List.append_nil] at X'
  exact k T' X' e'
theorem Go.callIP (X : Stand p l e R s m args below meth c T locs cells slots) (hx : p.tables.exec = Jvm.exec) (hZ : Z.Warmed39 s.vm) (hy1 : y.name = "<init>") (hown : s.vm.findClass own = some m.cls)
    (wl : (Cond.methodLink own index y).before a0 Z = true) (wi : (Cond.instanceMethod y).before a0 Z = true) (wz : (Cond.initialized y.cls).before a0 Z = true) (wc : (Cond.code y bytes maxL none).before a0 Z = true)
    (hy : y.cls ≠ "java/lang/invoke/MethodHandle" ∧ y.cls ≠ "java/lang/invoke/VarHandle") {a : Addr} {fr lo : Nat} (hM : MetAt l Z y bytes maxL none { frames := fr, cells := 0, slots := 0, locals := lo } (.ref a :: argsL).toArray h (PQ h none)) (eT : T.heap = h) (hsize : Ls.size = c.maxLocals)
    (hlen : ∀ sig, parseMethodDescriptor y.desc = some sig → argsL.length = sig.parameters.length) (hd : decode c.code pc = .ok (.invokespecial index, 3)) (hst : st = argsL.reverse ++ .ref a :: rest)
    (hW : (rest.map fun v => v.category).sum ≤ W) (hf : fr + 1 ≤ R.frames) (hl : W + (maxL + 11) + lo ≤ R.locals) (hc : cells ≤ R.cells) (hs : slots ≤ R.slots)
    (k : ∀ T', Stand p l e R s m args below meth c T' locs cells slots → T'.heap = h → Go p e below F T' (mkF m (pc + 3) Ls rest)) : Go p e below F T (mkF m pc Ls st) := by
  refine Go.callI X hx hZ hy1 hown wl wi wz wc hy hM eT hsize hlen hd hst hW hf hl hc hs fun v T' L' X' q => ?_
  obtain ⟨rfl, rfl, e'⟩ := q
  rw [List.append_nil] at X'
  exact k T' X' e'
end Going
end Jvm.RoadKit
namespace Jvm.RoadKit
open Sem ClassFile Op Lib Jvm.Stand Jvm.Free Jvm.LawKit
section Heaping
variable {p : Program} {l : Launch} {e : Env} {R : Room} {s : State} {m : MethodId} {args : Array Value} {below : List Frame} {meth : Method} {c : Code} {T : State} {locs : List Loc} {cells slots : Nat} {Fi : Option Value → State → Prop} {Z : State} {a0 : Array Value} {h : Heap} {a : Addr} {k : ClassId} {ty : FieldType} {z j x : Int32} {vs rest st : List Value} {dv v : Value} {pc : Nat} {Ls : Array Slot} {own C O n d host : String} {index nn : Nat}
theorem Arv.load (F : Arv Z h a k ty z vs dv) (hj : ¬ j < 0 ∧ j < z) : ∃ cl, Arr Z h a cl ty ∧ ¬ (j < 0 ∨ cl.slots.size ≤ j.toNatClampNeg) ∧ cl.slots[j.toNatClampNeg]? = some (vs.getD j.toNatClampNeg dv) := by
  obtain ⟨cl, A, -, S, -, H, -⟩ := F
  exact ⟨cl, A, inb_of S hj, H.at (inb_of S hj) rfl⟩
theorem Go.iaload (X : Stand p l e R s m args below meth c T locs cells slots) (hx : p.tables.exec = Jvm.exec) (hZ : Z.Warmed39 s.vm) (eT : T.heap = h) (F : Arv Z h a k .int z vs dv) (hj : ¬ j < 0 ∧ j < z) (hv : vs.getD j.toNatClampNeg dv = v) (hd : decode c.code pc = .ok (.iaload, 1)) (kk : Go p e below Fi T (mkF m (pc + 1) Ls (v :: rest))) : Go p e below Fi T (mkF m pc Ls (.int j :: .ref a :: rest)) := by
  obtain ⟨cl, A, i1, i2⟩ := F.load hj
  rw [hv] at i2
  exact Go.of (fun t q => X.iaload hx (by rw [eT]; exact A.1) (State.isArrayOf_alike hZ.alike A.2.1) A.2.2 i1 i2 (g := mkF m pc Ls (.int j :: .ref a :: rest)) rfl rfl hd t q) kk
theorem Go.laload (X : Stand p l e R s m args below meth c T locs cells slots) (hx : p.tables.exec = Jvm.exec) (hZ : Z.Warmed39 s.vm) (eT : T.heap = h) (F : Arv Z h a k .long z vs dv) (hj : ¬ j < 0 ∧ j < z) (hv : vs.getD j.toNatClampNeg dv = v) (hd : decode c.code pc = .ok (.laload, 1)) (kk : Go p e below Fi T (mkF m (pc + 1) Ls (v :: rest))) : Go p e below Fi T (mkF m pc Ls (.int j :: .ref a :: rest)) := by
  obtain ⟨cl, A, i1, i2⟩ := F.load hj
  rw [hv] at i2
  exact Go.of (fun t q => X.laload hx (by rw [eT]; exact A.1) (State.isArrayOf_alike hZ.alike A.2.1) A.2.2 i1 i2 (g := mkF m pc Ls (.int j :: .ref a :: rest)) rfl rfl hd t q) kk
theorem Go.baload (X : Stand p l e R s m args below meth c T locs cells slots) (hx : p.tables.exec = Jvm.exec) (hZ : Z.Warmed39 s.vm) (eT : T.heap = h) (F : Arv Z h a k .byte z vs dv) (hj : ¬ j < 0 ∧ j < z) (hv : vs.getD j.toNatClampNeg dv = v) (hd : decode c.code pc = .ok (.baload, 1)) (kk : Go p e below Fi T (mkF m (pc + 1) Ls (v :: rest))) : Go p e below Fi T (mkF m pc Ls (.int j :: .ref a :: rest)) := by
  obtain ⟨cl, A, i1, i2⟩ := F.load hj
  rw [hv] at i2
  exact Go.of (fun t q => X.baloadBytes hx (by rw [eT]; exact A.1) (State.isArrayOf_alike hZ.alike A.2.1) A.2.2 i1 i2 (g := mkF m pc Ls (.int j :: .ref a :: rest)) rfl rfl hd t q) kk
theorem Go.caload (X : Stand p l e R s m args below meth c T locs cells slots) (hx : p.tables.exec = Jvm.exec) (hZ : Z.Warmed39 s.vm) (eT : T.heap = h) (F : Arv Z h a k .char z vs dv) (hj : ¬ j < 0 ∧ j < z) (hv : vs.getD j.toNatClampNeg dv = v) (hd : decode c.code pc = .ok (.caload, 1)) (kk : Go p e below Fi T (mkF m (pc + 1) Ls (v :: rest))) : Go p e below Fi T (mkF m pc Ls (.int j :: .ref a :: rest)) := by
  obtain ⟨cl, A, i1, i2⟩ := F.load hj
  rw [hv] at i2
  exact Go.of (fun t q => X.caload hx (by rw [eT]; exact A.1) (State.isArrayOf_alike hZ.alike A.2.1) A.2.2 i1 i2 (g := mkF m pc Ls (.int j :: .ref a :: rest)) rfl rfl hd t q) kk
theorem Go.aaload (X : Stand p l e R s m args below meth c T locs cells slots) (hx : p.tables.exec = Jvm.exec) (hZ : Z.Warmed39 s.vm) (eT : T.heap = h) (F : Arv Z h a k ty z vs dv) (hty : ty.isReference = true) (hj : ¬ j < 0 ∧ j < z) (hv : vs.getD j.toNatClampNeg dv = v) (hd : decode c.code pc = .ok (.aaload, 1)) (kk : Go p e below Fi T (mkF m (pc + 1) Ls (v :: rest))) : Go p e below Fi T (mkF m pc Ls (.int j :: .ref a :: rest)) := by
  obtain ⟨cl, A, i1, i2⟩ := F.load hj
  rw [hv] at i2
  exact Go.of (fun t q => X.aaload hx (by rw [eT]; exact A.1) (State.isArrayOf_alike hZ.alike A.2.1) hty A.2.2 i1 i2 (g := mkF m pc Ls (.int j :: .ref a :: rest)) rfl rfl hd t q) kk
theorem Go.daload (X : Stand p l e R s m args below meth c T locs cells slots) (hx : p.tables.exec = Jvm.exec) (hZ : Z.Warmed39 s.vm) (eT : T.heap = h) (F : Arv Z h a k .double z vs dv) (hj : ¬ j < 0 ∧ j < z) (hv : vs.getD j.toNatClampNeg dv = v) (hd : decode c.code pc = .ok (.daload, 1)) (kk : Go p e below Fi T (mkF m (pc + 1) Ls (v :: rest))) : Go p e below Fi T (mkF m pc Ls (.int j :: .ref a :: rest)) := by
  obtain ⟨cl, A, i1, i2⟩ := F.load hj
  rw [hv] at i2
  exact Go.of (fun t q => X.daload hx (by rw [eT]; exact A.1) (State.isArrayOf_alike hZ.alike A.2.1) A.2.2 i1 i2 (g := mkF m pc Ls (.int j :: .ref a :: rest)) rfl rfl hd t q) kk
theorem Go.dastore {x : UInt64} (X : Stand p l e R s m args below meth c T locs cells slots) (hx : p.tables.exec = Jvm.exec) (hZ : Z.Warmed39 s.vm) (eT : T.heap = h) (F : Arv Z h a k .double z vs dv) (hj : ¬ j < 0 ∧ j < z) (i : Nat) (hji : j.toNatClampNeg = i) (hi : i < vs.length) (hd : decode c.code pc = .ok (.dastore, 1))
    (kk : ∀ T' h', Stand p l e R s m args below meth c T' (locs ++ [⟨a, i⟩]) cells slots → T'.heap = h' → Wr h h' a i (.double x) → Arv Z h' a k .double z (vs.set i (.double x)) dv → Go p e below Fi T' (mkF m (pc + 1) Ls rest)) : Go p e below Fi T (mkF m pc Ls (.double x :: .int j :: .ref a :: rest)) := by
  obtain ⟨cl, A, q, S, M, H, G⟩ := F
  subst hji
  obtain ⟨T', h', X', e', W', st⟩ := stD X hx hZ eT A (inb_of S hj) (g := mkF m pc Ls (.double x :: .int j :: .ref a :: rest)) rfl rfl hd
  exact Go.of st (kk T' h' X' e' W' (Arv.set A q S M H G rfl W' _ rfl hi))
theorem Go.len (X : Stand p l e R s m args below meth c T locs cells slots) (hx : p.tables.exec = Jvm.exec) (hZ : Z.Warmed39 s.vm) (eT : T.heap = h) (F : Arv Z h a k ty z vs dv) (hd : decode c.code pc = .ok (.arraylength, 1)) (kk : Go p e below Fi T (mkF m (pc + 1) Ls (.int z :: rest))) : Go p e below Fi T (mkF m pc Ls (.ref a :: rest)) := by
  obtain ⟨cl, A, -, S, M, -, -⟩ := F
  exact Go.of (fun t q => X.arraylength hx (a := a) (cell := cl) (ty := ty) (by rw [eT]; exact A.1) (State.isArrayOf_alike hZ.alike A.2.1) (g := mkF m pc Ls (.ref a :: rest)) rfl (rest := rest) rfl hd t (by rw [len_of S M]; exact q)) kk
theorem Go.iastore (X : Stand p l e R s m args below meth c T locs cells slots) (hx : p.tables.exec = Jvm.exec) (hZ : Z.Warmed39 s.vm) (eT : T.heap = h) (F : Arv Z h a k .int z vs dv) (hj : ¬ j < 0 ∧ j < z) (i : Nat) (hji : j.toNatClampNeg = i) (hi : i < vs.length) (hd : decode c.code pc = .ok (.iastore, 1))
    (kk : ∀ T' h', Stand p l e R s m args below meth c T' (locs ++ [⟨a, i⟩]) cells slots → T'.heap = h' → Wr h h' a i (.int x) → Arv Z h' a k .int z (vs.set i (.int x)) dv → Go p e below Fi T' (mkF m (pc + 1) Ls rest)) : Go p e below Fi T (mkF m pc Ls (.int x :: .int j :: .ref a :: rest)) := by
  obtain ⟨cl, A, q, S, M, H, G⟩ := F
  subst hji
  obtain ⟨T', h', X', e', W', st⟩ := stI X hx hZ eT A (inb_of S hj) (g := mkF m pc Ls (.int x :: .int j :: .ref a :: rest)) rfl rfl hd
  exact Go.of st (kk T' h' X' e' W' (Arv.set A q S M H G rfl W' _ rfl hi))
theorem Go.lastore {x : Int64} (X : Stand p l e R s m args below meth c T locs cells slots) (hx : p.tables.exec = Jvm.exec) (hZ : Z.Warmed39 s.vm) (eT : T.heap = h) (F : Arv Z h a k .long z vs dv) (hj : ¬ j < 0 ∧ j < z) (i : Nat) (hji : j.toNatClampNeg = i) (hi : i < vs.length) (hd : decode c.code pc = .ok (.lastore, 1))
    (kk : ∀ T' h', Stand p l e R s m args below meth c T' (locs ++ [⟨a, i⟩]) cells slots → T'.heap = h' → Wr h h' a i (.long x) → Arv Z h' a k .long z (vs.set i (.long x)) dv → Go p e below Fi T' (mkF m (pc + 1) Ls rest)) : Go p e below Fi T (mkF m pc Ls (.long x :: .int j :: .ref a :: rest)) := by
  obtain ⟨cl, A, q, S, M, H, G⟩ := F
  subst hji
  obtain ⟨T', h', X', e', W', st⟩ := stJ X hx hZ eT A (inb_of S hj) (g := mkF m pc Ls (.long x :: .int j :: .ref a :: rest)) rfl rfl hd
  exact Go.of st (kk T' h' X' e' W' (Arv.set A q S M H G rfl W' _ rfl hi))
theorem Go.bastore (X : Stand p l e R s m args below meth c T locs cells slots) (hx : p.tables.exec = Jvm.exec) (hZ : Z.Warmed39 s.vm) (eT : T.heap = h) (F : Arv Z h a k .byte z vs dv) (hj : ¬ j < 0 ∧ j < z) (i : Nat) (hji : j.toNatClampNeg = i) (hi : i < vs.length) (hd : decode c.code pc = .ok (.bastore, 1))
    (kk : ∀ T' h', Stand p l e R s m args below meth c T' (locs ++ [⟨a, i⟩]) cells slots → T'.heap = h' → Wr h h' a i (.int (nar .byte x)) → Arv Z h' a k .byte z (vs.set i (.int (nar .byte x))) dv → Go p e below Fi T' (mkF m (pc + 1) Ls rest)) : Go p e below Fi T (mkF m pc Ls (.int x :: .int j :: .ref a :: rest)) := by
  obtain ⟨cl, A, q, S, M, H, G⟩ := F
  subst hji
  obtain ⟨T', h', X', e', W', st⟩ := stB X hx hZ eT A (inb_of S hj) (g := mkF m pc Ls (.int x :: .int j :: .ref a :: rest)) rfl rfl hd
  exact Go.of st (kk T' h' X' e' W' (Arv.set A q S M H G (fits_nar_byte _) W' _ rfl hi))
theorem Go.castore (X : Stand p l e R s m args below meth c T locs cells slots) (hx : p.tables.exec = Jvm.exec) (hZ : Z.Warmed39 s.vm) (eT : T.heap = h) (F : Arv Z h a k .char z vs dv) (hj : ¬ j < 0 ∧ j < z) (i : Nat) (hji : j.toNatClampNeg = i) (hi : i < vs.length) (hd : decode c.code pc = .ok (.castore, 1))
    (kk : ∀ T' h', Stand p l e R s m args below meth c T' (locs ++ [⟨a, i⟩]) cells slots → T'.heap = h' → Wr h h' a i (.int (nar .char x)) → Arv Z h' a k .char z (vs.set i (.int (nar .char x))) dv → Go p e below Fi T' (mkF m (pc + 1) Ls rest)) : Go p e below Fi T (mkF m pc Ls (.int x :: .int j :: .ref a :: rest)) := by
  obtain ⟨cl, A, q, S, M, H, G⟩ := F
  subst hji
  obtain ⟨T', h', X', e', W', st⟩ := stC X hx hZ eT A (inb_of S hj) (g := mkF m pc Ls (.int x :: .int j :: .ref a :: rest)) rfl rfl hd
  exact Go.of st (kk T' h' X' e' W' (Arv.set A q S M H G (fits_nar_char _) W' _ rfl hi))
theorem Go.newarr (X : Stand p l e R s m args below meth c T locs cells slots) (hx : p.tables.exec = Jvm.exec) (hZ : Z.Warmed39 s.vm) {aty : ArrayType} (w : (Cond.arrayClass (newarray.typeOf aty)).before a0 Z = true) (eT : T.heap = h) (cap : Nat) (hn : ¬ z < 0) (hcap : z.toNatClampNeg = cap) (hb : cap * 8 ≤ 536870912) (hc : cells + 1 ≤ R.cells) (hl : slots + cap ≤ R.slots) (hd : decode c.code pc = .ok (.newarray aty, 2))
    (kk : ∀ T' h' b k, b = h.size → Stand p l e R s m args below meth c T' locs (cells + 1) (slots + cap) → T'.heap = h' → Ext h h' → Arv Z h' b k (newarray.typeOf aty) z (List.replicate cap (defaultValue (newarray.typeOf aty))) (defaultValue (newarray.typeOf aty)) → Go p e below Fi T' (mkF m (pc + 2) Ls (.ref b :: rest))) : Go p e below Fi T (mkF m pc Ls (.int z :: rest)) := by
  obtain ⟨T', h', kA, X', e', E', A', st⟩ := newP X hx hZ w eT (g := mkF m pc Ls (.int z :: rest)) rfl hd rfl hn (cap := cap) (Nat.le_of_eq hcap) hb hc hl
  exact Go.of st (kk T' h' _ kA rfl X' e' E' ((Arv.new A' hn).pad (pad_rep [] _ cap)))
theorem Go.newarrE (X : Stand p l e R s m args below meth c T locs cells slots) (hx : p.tables.exec = Jvm.exec) (hZ : Z.Warmed39 s.vm) {aty : ArrayType} {ad : String} (had : "[" ++ (newarray.typeOf aty).toString = ad) (w : (Cond.arrayClass (newarray.typeOf aty)).before a0 Z = true) (eT : T.heap = h) (cap : Nat) (hn : ¬ z < 0) (hcap : z.toNatClampNeg = cap) (hb : cap * 8 ≤ 536870912) (hc : cells + 1 ≤ R.cells) (hl : slots + cap ≤ R.slots) (hd : decode c.code pc = .ok (.newarray aty, 2))
    (kk : ∀ T' h' b k, b = h.size → Stand p l e R s m args below meth c T' locs (cells + 1) (slots + cap) → T'.heap = h' → Ext h h' → Arv Z h' b k (newarray.typeOf aty) z (List.replicate cap (defaultValue (newarray.typeOf aty))) (defaultValue (newarray.typeOf aty)) → Exa Z h' b ad → Go p e below Fi T' (mkF m (pc + 2) Ls (.ref b :: rest))) : Go p e below Fi T (mkF m pc Ls (.int z :: rest)) := by
  obtain ⟨T', h', kA, X', e', E', A', EA, st⟩ := newPE X hx hZ w eT (g := mkF m pc Ls (.int z :: rest)) rfl hd rfl hn (cap := cap) (Nat.le_of_eq hcap) hb hc hl had
  exact Go.of st (kk T' h' _ kA rfl X' e' E' ((Arv.new A' hn).pad (pad_rep [] _ cap)) EA)
theorem Go.clone (X : Stand p l e R s m args below meth c T locs cells slots) (hx : p.tables.exec = Jvm.exec) (hZ : Z.Warmed39 s.vm) {ad : String} (hown : s.vm.findClass own = some m.cls)
    (w1 : (Cond.methodLink own index ⟨ad, "clone", "()Ljava/lang/Object;"⟩).before a0 Z = true) (w2 : (Cond.sameMethod ad "java/lang/Object" "clone" "()Ljava/lang/Object;").before a0 Z = true) (w3 : (Cond.native ⟨"java/lang/Object", "clone", "()Ljava/lang/Object;"⟩).before a0 Z = true)
    (w4 : (Cond.instanceMethod ⟨"java/lang/Object", "clone", "()Ljava/lang/Object;"⟩).before a0 Z = true) (w5 : (Cond.selects ad ⟨ad, "clone", "()Ljava/lang/Object;"⟩ ⟨"java/lang/Object", "clone", "()Ljava/lang/Object;"⟩).before a0 Z = true) (w6 : (Cond.castable ad "java/lang/Cloneable").before a0 Z = true)
    (eT : T.heap = h) (F : Arv Z h a k ty z vs dv) (E : Exa Z h a ad) (hsize : Ls.size = c.maxLocals) (hd : decode c.code pc = .ok (.invokevirtual index, 3)) (hf : 1 ≤ R.frames) {W cap : Nat} (hW : (rest.map fun v => v.category).sum ≤ W) (hl : W + 14 ≤ R.locals) (hcap : z.toNatClampNeg ≤ cap) (hc : cells + 1 ≤ R.cells) (hsl : slots + cap ≤ R.slots)
    (kk : ∀ T' h' b, b = h.size → Stand p l e R s m args below meth c T' locs (cells + 1) (slots + cap) → T'.heap = h' → Ext h h' → Arv Z h' b k ty z vs dv → Exa Z h' b ad → Go p e below Fi T' (mkF m (pc + 3) Ls (.ref b :: rest))) : Go p e below Fi T (mkF m pc Ls (.ref a :: rest)) := by
  obtain ⟨cl, A, q1, S, q3, H, G⟩ := F
  have FC : FitC Z cl := fitC_of A fun i hi v hv => by rw [H i hi] at hv; cases hv; exact G i hi
  obtain ⟨T', h', X', e', ex, A', E', st⟩ := cloneA X hx hZ hown w1 w2 w3 w4 w5 w6 eT A E FC (g := mkF m pc Ls (.ref a :: rest)) rfl hsize rfl hd hf (by show 2 * 0 + _ ≤ W; omega) hl (by rw [S]; exact hcap) hc hsl
  exact Go.of st (kk T' h' _ rfl X' e' ex ⟨cloneOf cl, A', q1, S, q3, H, G⟩ E')
theorem Go.castTo (X : Stand p l e R s m args below meth c T locs cells slots) (hx : p.tables.exec = Jvm.exec) (hZ : Z.Warmed39 s.vm) (hown : s.vm.findClass own = some m.cls) {K : String} (w : (Cond.classLink own index K).before a0 Z = true) (eT : T.heap = h) (I : Ins Z h a K true) (hd : decode c.code pc = .ok (.checkcast index, 3))
    (kk : ∀ T', Stand p l e R s m args below meth c T' locs cells slots → T'.heap = h → Go p e below Fi T' (mkF m (pc + 3) Ls (.ref a :: rest))) : Go p e below Fi T (mkF m pc Ls (.ref a :: rest)) := by
  obtain ⟨T', X', e', st⟩ := castY X hx hZ hown w eT I (g := mkF m pc Ls (.ref a :: rest)) rfl rfl hd
  exact Go.of st (kk T' X' e')
theorem Go.new (X : Stand p l e R s m args below meth c T locs cells slots) (hx : p.tables.exec = Jvm.exec) (hZ : Z.Warmed39 s.vm) (hown : s.vm.findClass own = some m.cls) (w : (Cond.classLink own index C).before a0 Z = true) (wi : (Cond.instantiable C nn).before a0 Z = true) (wz : (Cond.initialized C).before a0 Z = true) (eT : T.heap = h) (hd : decode c.code pc = .ok (.new index, 3)) (hc : cells + 1 ≤ R.cells) (hl : slots + nn ≤ R.slots)
    (kk : ∀ T' h' b, b = h.size → Stand p l e R s m args below meth c T' locs (cells + 1) (slots + nn) → T'.heap = h' → Ext h h' → Exa Z h' b C → (∀ {O nm d : String} {ty : FieldType}, Laid Z a0 C O nm d → parseFieldDescriptor d = some ty → Fld Z h' b O nm d (defaultValue ty)) → Go p e below Fi T' (mkF m (pc + 3) Ls (.ref b :: st))) : Go p e below Fi T (mkF m pc Ls st) := by
  obtain ⟨T', h', X', e', E', A', D', -, stp⟩ := newO X hx hZ hown w wi wz eT (g := mkF m pc Ls st) rfl hd hc hl
  exact Go.of stp (kk T' h' _ rfl X' e' E' A' D')
theorem Go.getf (X : Stand p l e R s m args below meth c T locs cells slots) (hx : p.tables.exec = Jvm.exec) (hZ : Z.Warmed39 s.vm) (hown : s.vm.findClass own = some m.cls) {R0 : String} (w : (Cond.fieldLink own index R0 n d).before a0 Z = true) (via : Via Z R0 O n d) (eT : T.heap = h) (F : Fld Z h a O n d v) (hd : decode c.code pc = .ok (.getfield index, 3))
    (kk : ∀ T', Stand p l e R s m args below meth c T' locs cells slots → T'.heap = h → Go p e below Fi T' (mkF m (pc + 3) Ls (v :: rest))) : Go p e below Fi T (mkF m pc Ls (.ref a :: rest)) := by
  obtain ⟨T', X', e', st⟩ := getF X hx hZ hown (host := "") (Or.inl w) via eT F (g := mkF m pc Ls (.ref a :: rest)) rfl rfl hd
  exact Go.of st (kk T' X' e')
theorem Go.gets (X : Stand p l e R s m args below meth c T locs cells slots) (hx : p.tables.exec = Jvm.exec) (hZ : Z.Warmed39 s.vm) (hown : s.vm.findClass own = some m.cls) {R0 : String} (w : (Cond.fieldLink own index R0 n d).before a0 Z = true) (via : Via Z R0 O n d) (eT : T.heap = h) (F : Sta Z h O n d v) (hd : decode c.code pc = .ok (.getstatic index, 3))
    (kk : ∀ T', Stand p l e R s m args below meth c T' locs cells slots → T'.heap = h → Go p e below Fi T' (mkF m (pc + 3) Ls (v :: st))) : Go p e below Fi T (mkF m pc Ls st) := by
  obtain ⟨T', X', e', stp⟩ := getS2 X hx hZ hown (host := "") (Or.inl w) via eT F (g := mkF m pc Ls st) rfl hd
  exact Go.of stp (kk T' X' e')
theorem Go.putf (X : Stand p l e R s m args below meth c T locs cells slots) (hx : p.tables.exec = Jvm.exec) (hZ : Z.Warmed39 s.vm) (hown : s.vm.findClass own = some m.cls) {R0 : String} (w : (Cond.fieldLink own index R0 n d).before a0 Z = true) (via : Via Z R0 O n d) (eT : T.heap = h) {old : Value} (F : Fld Z h a O n d old) (E : Exa Z h a C) (L : (Cond.lays C O n d).before a0 Z = true ∨ ((Cond.laysFinal C O n d).before a0 Z = true ∧ own = O ∧ meth.name = "<init>")) (wi : (Cond.instantiable C nn).before a0 Z = true) (hty : parseFieldDescriptor d = some ty) {v' : Value} (hn : narrow ty v = v') (hf : fits ty v' = true) (hd : decode c.code pc = .ok (.putfield index, 3))
    (kk : ∀ T' h', Stand p l e R s m args below meth c T' (locs ++ [⟨a, slotOf Z O n d⟩]) cells slots → T'.heap = h' → Wr h h' a (slotOf Z O n d) v' → Fld Z h' a O n d v' → Exa Z h' a C → Go p e below Fi T' (mkF m (pc + 3) Ls rest)) : Go p e below Fi T (mkF m pc Ls (v :: .ref a :: rest)) := by
  obtain ⟨T', h', X', e', W', st⟩ := putFN X hx hZ hown w via eT F E L wi hty hn hf (g := mkF m pc Ls (v :: .ref a :: rest)) rfl rfl hd
  exact Go.of st (kk T' h' X' e' W' (F.same W') (E.wr W'))
theorem Go.initObj (X : Stand p l e R s m args below meth c T locs cells slots) (hx : p.tables.exec = Jvm.exec) (hZ : Z.Warmed39 s.vm) (hown : s.vm.findClass own = some m.cls) (w1 : (Cond.methodLink own index Lib.objectInit).before a0 Z = true) (w2 : (Cond.instanceMethod Lib.objectInit).before a0 Z = true) (w3 : (Cond.code Lib.objectInit ⟨#[0xb1]⟩ 1 none).before a0 Z = true) (eT : T.heap = h) (hsize : Ls.size = c.maxLocals) (hd : decode c.code pc = .ok (.invokespecial index, 3)) (hf : 1 ≤ R.frames) {W : Nat} (hW : (rest.map fun v => v.category).sum ≤ W) (hl : W + 12 ≤ R.locals)
    (kk : ∀ T', Stand p l e R s m args below meth c T' locs cells slots → T'.heap = h → Go p e below Fi T' (mkF m (pc + 3) Ls rest)) : Go p e below Fi T (mkF m pc Ls (.ref a :: rest)) := by
  obtain ⟨T', X', e', st⟩ := initO X hx hZ hown w1 w2 w3 eT (g := mkF m pc Ls (.ref a :: rest)) rfl hsize rfl hd hf (W := W) (by show 2 * 0 + _ ≤ _; omega) hl
  exact Go.of st (kk T' X' e')
end Heaping
end Jvm.RoadKit
namespace Jvm.Pilot.@@N@@
open Jvm Jvm.ClassFile Sem Op Lib Jvm.Free Jvm.Stand Jvm.LawKit Jvm.RoadKit Bundle Jvm.Pilot.@@N@@.Jvm.D
def own_mean (x : Int64) (nz : Int32) : UInt64 := if XS.cmpL x 0 = 0 then (if nz = 0 then FP.l2d x else 9223372036854775808) else FP.l2d x
section OwnFloat
open Jvm.FP Jvm.Free.Fl
theorem own_half : Fin64 4602678819172646912 := by unfold Fin64; decide
theorem own_mean_fin (x : Int64) (nz : Int32) : Fin64 (own_mean x nz) := by
  unfold own_mean
  split
  · split
    · exact l2d_fin x
    · unfold Fin64; decide
  · exact l2d_fin x
theorem own_core {x : UInt64} (h : NoNaN64 x) : Core.val64 x ≠ .nan := (Core.notNaN_iff x).mp (noNaN64_no.mp h)
theorem own_cmp_eq {x y : Int64} : XS.cmpL x y = 0 ↔ x = y := by
  unfold XS.cmpL
  split
  · rename_i h
    constructor
    · intro z; exact absurd z (by decide)
    · intro z; subst z; exact absurd h (Int64.lt_irrefl)
  · split <;> simp_all
theorem own_zval {x : Int64} (h : Core.Small53 x) (nz : Int32) : Core.zval Core.b64 (Core.val64 (own_mean x nz)) = x.toInt * ((2 ^ 1074 : Nat) : Int) := by
  have e : (-Core.b64.qmin).toNat = 1074 := by rw [Core.qmin_b64]; rfl
  have w := Core.whole_zval Core.good_b64 (Core.val64_fits _) (Core.l2d_whole h)
  rw [e] at w
  unfold own_mean
  split
  · rename_i q
    rw [own_cmp_eq] at q
    split
    · exact w
    · have c : Core.val64 9223372036854775808 = .fin true 0 Core.b64.qmin := Core.val64_dzeroNeg
      rw [c, q]
      show Core.signed true (Core.inUnits 0 Core.b64.qmin Core.b64.qmin) = (0 : Int64).toInt * _
      have z0 : (0 : Int64).toInt = 0 := rfl
      rw [z0, Int.zero_mul]
      simp [Core.inUnits, Core.signed]
  · exact w
theorem own_gt {x y : UInt64} : (0 : Int32) < cmpValue (FP.dcmp x y) .l ↔ FP.dcmp x y = some .gt := by
  cases h : FP.dcmp x y with
  | none => simp [cmpValue]
  | some o => cases o <;> simp [cmpValue] <;> decide
theorem own_mono {x y v : UInt64} (hx : Fin64 x) (hy : Fin64 y) (hle : Core.zval Core.b64 (Core.val64 x) ≤ Core.zval Core.b64 (Core.val64 y)) (h : (0 : Int32) < cmpValue (FP.dcmp x v) .l) : (0 : Int32) < cmpValue (FP.dcmp y v) .l := by
  rw [own_gt] at h ⊢
  have hv : Core.val64 v ≠ .nan := fun z => by
    have : FP.dcmp x v = none := by
      show Core.order (Core.val64 x) (Core.val64 v) = none
      rw [z]; cases Core.val64 x <;> rfl
    rw [this] at h; cases h
  have e1 : FP.dcmp x v = some (compare (Core.zval Core.b64 (Core.val64 x)) (Core.zval Core.b64 (Core.val64 v))) := Core.order_zval Core.good_b64 (Core.val64_fits x) (Core.val64_fits v) (own_core hx.noNaN) hv
  have e2 : FP.dcmp y v = some (compare (Core.zval Core.b64 (Core.val64 y)) (Core.zval Core.b64 (Core.val64 v))) := Core.order_zval Core.good_b64 (Core.val64_fits y) (Core.val64_fits v) (own_core hy.noNaN) hv
  rw [e1, Option.some.injEq, Core.compare_gt_iff] at h
  rw [e2, Option.some.injEq, Core.compare_gt_iff]
  omega
theorem own_mono2 {x y : Int64} {nz : Int32} {v : UInt64} (hx : Core.Small53 x) (hy : Core.Small53 y) (hle : x.toInt ≤ y.toInt) (h : (0 : Int32) < cmpValue (FP.dcmp (own_mean x nz) v) .l) : (0 : Int32) < cmpValue (FP.dcmp (own_mean y nz) v) .l :=
  own_mono (own_mean_fin _ _) (own_mean_fin _ _) (by rw [own_zval hx, own_zval hy]; exact Int.mul_le_mul_of_nonneg_right hle (Int.natCast_nonneg _)) h
theorem own_fins {m0 m1 m2 m3 m4 : UInt64} (h0 : Fin64 m0) (h1 : Fin64 m1) (h2 : Fin64 m2) (h3 : Fin64 m3) (h4 : Fin64 m4) (n : Nat) : Fin64 ([m0, m1, m2, m3, m4].getD n 0) := by
  match n with
  | 0 => exact h0
  | 1 => exact h1
  | 2 => exact h2
  | 3 => exact h3
  | 4 => exact h4
  | n + 5 => show Fin64 0; unfold Fin64; decide
end OwnFloat
theorem own_ushr (x : Int32) (n k : Nat) (hx : 0 ≤ x) (hn : ((Int32.ofNat n) &&& 31).toUInt32.toNat = k) (hk : k < 32) : (XS.ushr x (Int32.ofNat n)).toInt = x.toInt / 2 ^ k := Jvm.Kit.i32_iushr hx hn hk
theorem own_and7 (x : Int32) : 0 ≤ (x &&& 7).toInt ∧ (x &&& 7).toInt ≤ 7 := by
  have := Jvm.Kit.i32_mask x 7 (k := 3) (by decide) (by decide)
  omega
theorem own_rem {x y : Int32} (hx : 0 ≤ x.toInt) (hy : 0 < y.toInt) : 0 ≤ (x % y).toInt ∧ (x % y).toInt < y.toInt := by
  rw [Jvm.Kit.i32_rem_nonneg hx]
  exact ⟨Int.emod_nonneg _ (by omega), Int.emod_lt_of_pos _ hy⟩
theorem own_c0 : (0 : Int32).toInt = 0 := rfl
theorem own_c1 : (1 : Int32).toInt = 1 := rfl
theorem own_c5 : (5 : Int32).toInt = 5 := rfl
theorem own_c6 : (6 : Int32).toInt = 6 := rfl
theorem own_size {g : Int64} {sz : Int32} (h : (g &&& 7).toInt32 % 6 = sz) : 0 ≤ sz.toInt ∧ sz.toInt < 6 := by
  have m := Jvm.Kit.i64_mask g 7 (k := 3) (by decide) (by decide)
  have e : (g &&& 7).toInt32.toInt = (g &&& 7).toInt := Jvm.Kit.i32_of_i64 (by omega) (by omega)
  have := own_rem (x := (g &&& 7).toInt32) (y := 6) (by omega) (by rw [own_c6]; omega)
  rw [own_c6] at this; rw [← h]; exact this
theorem own_k5 {x k : Int32} (h : (x &&& 7) % 5 = k) : ¬ k < 0 ∧ k < 5 := by
  have := own_rem (x := x &&& 7) (y := 5) (own_and7 x).1 (by rw [own_c5]; omega)
  rw [own_c5, h] at this
  rw [Int32.lt_iff_toInt_lt, Int32.lt_iff_toInt_lt, own_c0, own_c5]; omega
theorem own_l0 {a : Int32} {b : Int64} (h : a.toInt64 = b) : -2147483648 ≤ b.toInt ∧ b.toInt < 2147483648 := by
  have h1 := a.toInt_lt; have h2 := a.le_toInt
  rw [← h, Int32.toInt_toInt64]; omega
theorem own_ln {a x b : Int64} {k : Nat} (h : a + 1 + (x &&& 4095) = b) (ha : -2147483648 ≤ a.toInt ∧ a.toInt < 2147483648 + k * 8192) (hk : k ≤ 4) : a.toInt ≤ b.toInt ∧ b.toInt < 2147483648 + (k + 1 : Nat) * 8192 := by
  have m := Jvm.Kit.i64_mask x 4095 (k := 12) (by decide) (by decide)
  have o : (1 : Int64).toInt = 1 := rfl
  have e1 : (a + 1).toInt = a.toInt + 1 := by rw [Jvm.Kit.i64_add (by rw [o]; omega) (by rw [o]; omega), o]
  rw [← h, Jvm.Kit.i64_add (by omega) (by omega), e1]
  omega
theorem own_small {b : Int64} (h1 : -2147483648 ≤ b.toInt) (h2 : b.toInt < 2147483648 + 5 * 8192) : Jvm.FP.Core.Small53 b := by unfold Jvm.FP.Core.Small53; omega
def own_P (ds : List UInt64) (v : UInt64) (q : Int32) : Bool := decide ((0 : Int32) < cmpValue (FP.dcmp (ds.getD q.toNatClampNeg 0) v) .l)
def own_na (P : Int32 → Bool) (sz q : Int32) : Int32 := if q < sz then (if P q = true then 0 else 1) else 0
def own_bs : Nat → (Int32 → Bool) → Int32 → Int32 → Int32
  | 0, _, lo, _ => lo
  | n + 1, P, lo, hi => if lo < hi then (if P (XS.ushr (lo + hi) 1) = true then own_bs n P lo (XS.ushr (lo + hi) 1) else own_bs n P (XS.ushr (lo + hi) 1 + 1) hi) else lo
theorem own_at {ds : List UInt64} {j : Int32} : (ds.map Value.double).getD j.toNatClampNeg (.double 0) = .double (ds.getD j.toNatClampNeg 0) := by
  simp only [List.getD_eq_getElem?_getD, List.getElem?_map]
  cases ds[j.toNatClampNeg]? <;> rfl
theorem own_mid {lo hi mid : Int32} (h1 : 0 ≤ lo.toInt) (h2 : lo < hi) (h4 : hi.toInt < 6) (e : XS.ushr (lo + hi) 1 = mid) : lo.toInt ≤ mid.toInt ∧ mid.toInt < hi.toInt := by
  rw [Int32.lt_iff_toInt_lt] at h2
  have e1 : (lo + hi).toInt = lo.toInt + hi.toInt := Jvm.Kit.i32_add (by omega) (by omega)
  have e2 : (XS.ushr (lo + hi) 1).toInt = (lo + hi).toInt / 2 ^ 1 := own_ushr _ 1 1 (by rw [Int32.le_iff_toInt_le, e1, own_c0]; omega) (by decide) (by decide)
  rw [← e, e2, e1]; omega
theorem own_idx {mid hi : Int32} (h1 : 0 ≤ mid.toInt) (h2 : mid.toInt < hi.toInt) (h4 : hi.toInt < 6) : ¬ mid < 0 ∧ mid < 5 := by
  rw [Int32.lt_iff_toInt_lt, Int32.lt_iff_toInt_lt, own_c0, own_c5]; omega
theorem own_up {mid hi : Int32} (h : mid.toInt < hi.toInt) (h4 : hi.toInt < 6) (h0 : 0 ≤ mid.toInt) : (mid + 1).toInt = mid.toInt + 1 := by
  rw [Jvm.Kit.i32_add (by rw [own_c1]; omega) (by rw [own_c1]; omega), own_c1]
theorem own_nlt {lo hi : Int32} (h : hi.toInt - lo.toInt ≤ ((0 : Nat) : Int)) : ¬ lo < hi := by rw [Int32.lt_iff_toInt_lt]; omega
theorem own_congr {P P' : Int32 → Bool} (hP : ∀ q : Int32, 0 ≤ q.toInt → q.toInt < 5 → P q = P' q) : ∀ (n : Nat) (lo hi : Int32), 0 ≤ lo.toInt → hi.toInt < 6 → own_bs n P lo hi = own_bs n P' lo hi
  | 0, _, _, _, _ => rfl
  | n + 1, lo, hi, h1, h2 => by
    simp only [own_bs]
    by_cases h : lo < hi
    · obtain ⟨m1, m2⟩ := own_mid h1 h h2 rfl
      rw [if_pos h, if_pos h, hP _ (by omega) (by omega), own_congr hP n lo _ h1 (by omega), own_congr hP n _ hi (by rw [own_up m2 h2 (by omega)]; omega) h2]
    · rw [if_neg h, if_neg h]
def own_five (p0 p1 p2 p3 p4 : Bool) (q : Int32) : Bool := if q = 0 then p0 else if q = 1 then p1 else if q = 2 then p2 else if q = 3 then p3 else p4
def own_sum (P : Int32 → Bool) (sz : Int32) : Int32 := own_na P sz 0 + own_na P sz 1 + own_na P sz 2 + own_na P sz 3 + own_na P sz 4
theorem own_table : ∀ sz : Fin 6, ∀ p0 p1 p2 p3 p4 : Bool, (p0 = true → p1 = true) → (p1 = true → p2 = true) → (p2 = true → p3 = true) → (p3 = true → p4 = true) → own_bs 6 (own_five p0 p1 p2 p3 p4) 0 (Int32.ofNat sz.val) = own_sum (own_five p0 p1 p2 p3 p4) (Int32.ofNat sz.val) := by decide +kernel
theorem own_five_eq {P : Int32 → Bool} (q : Int32) (h0 : 0 ≤ q.toInt) (h1 : q.toInt < 5) : P q = own_five (P 0) (P 1) (P 2) (P 3) (P 4) q := by
  have hq : q = Int32.ofNat q.toInt.toNat := by
    apply Int32.toInt_inj.mp
    rw [Int32.toInt_ofNat_of_lt (by omega)]; omega
  have hn : q.toInt.toNat < 5 := by omega
  rw [hq]
  generalize q.toInt.toNat = n at hn
  match n, hn with
  | 0, _ => rfl
  | 1, _ => rfl
  | 2, _ => rfl
  | 3, _ => rfl
  | 4, _ => rfl
theorem own_final {P : Int32 → Bool} {sz : Int32} (h1 : 0 ≤ sz.toInt) (h3 : sz.toInt < 6) (m0 : P 0 = true → P 1 = true) (m1 : P 1 = true → P 2 = true) (m2 : P 2 = true → P 3 = true) (m3 : P 3 = true → P 4 = true) : own_bs 6 P 0 sz = own_sum P sz := by
  rw [own_congr (P' := own_five (P 0) (P 1) (P 2) (P 3) (P 4)) (fun q a b => own_five_eq q a b) 6 0 sz (by decide) h3]
  have e : own_sum P sz = own_sum (own_five (P 0) (P 1) (P 2) (P 3) (P 4)) sz := rfl
  rw [e]
  have hh : sz = Int32.ofNat sz.toInt.toNat := by
    apply Int32.toInt_inj.mp
    rw [Int32.toInt_ofNat_of_lt (by omega)]; omega
  have := own_table ⟨sz.toInt.toNat, by omega⟩ (P 0) (P 1) (P 2) (P 3) (P 4) m0 m1 m2 m3
  rw [hh]; exact this
theorem own_dsc0 : parseMethodDescriptor "(JZ)D" = some ⟨[.long, .boolean], some .double⟩ := by decide +kernel
theorem own_dsc1 : parseMethodDescriptor "([DI[J)V" = some ⟨[(.array .double), .int, (.array .long)], none⟩ := by decide +kernel
theorem own_dsc2 : parseMethodDescriptor "(D)I" = some ⟨[.double], some .int⟩ := by decide +kernel
theorem own_dsc3 : parseMethodDescriptor "([DIID)I" = some ⟨[(.array .double), .int, .int, .double], some .int⟩ := by decide +kernel
theorem own_ed0 : decode method_3_code 0 = .ok (.lload_n 0, 1) := by decide +kernel
theorem own_ed1 : decode method_3_code 1 = .ok (.lconst 0, 1) := by decide +kernel
theorem own_ed2 : decode method_3_code 2 = .ok (.lcmp, 1) := by decide +kernel
theorem own_ed3 : decode method_3_code 3 = .ok (.ifCond .ne 13, 3) := by decide +kernel
theorem own_ed6 : decode method_3_code 6 = .ok (.iload_n 2, 1) := by decide +kernel
theorem own_ed7 : decode method_3_code 7 = .ok (.ifCond .eq 9, 3) := by decide +kernel
theorem own_ed10 : decode method_3_code 10 = .ok (.ldc2_w 19, 3) := by decide +kernel
theorem own_ed13 : decode method_3_code 13 = .ok (.goto 5, 3) := by decide +kernel
theorem own_ed16 : decode method_3_code 16 = .ok (.lload_n 0, 1) := by decide +kernel
theorem own_ed17 : decode method_3_code 17 = .ok (.l2d, 1) := by decide +kernel
theorem own_ed18 : decode method_3_code 18 = .ok (.dreturn, 1) := by decide +kernel
set_option maxRecDepth 65536 in
set_option maxHeartbeats 40000000 in
theorem own_rmE (l : Launch) (Z : State) (a0 : Array Value) (hw : ∀ d ∈ tables_1, d.before a0 Z = true) (x : Int64) (nz : Int32) (h0 : Heap)  :
    MetFree l (⟨"com/example/joulepath/joulepath/core/powerlog/SortedMeansFirstAbovePinLaw", "mean", "(JZ)D"⟩ : MethodName) (head1 [Jvm.Cond.code (⟨"com/example/joulepath/joulepath/core/powerlog/SortedMeansFirstAbovePinLaw", "mean", "(JZ)D"⟩ : MethodName) method_3_code 3 (some .double)] ({ frames := 0, cells := 0, slots := 0, locals := 0 } : Room)) (fun aa U => aa = #[(.long x), (.int nz)] ∧ Z.Warmed39 U.vm ∧ U.heap = h0) (fun _ _ _ _ _ => True) (fun _ U o U' => ∃ v L, o = .returned v ∧ (PQ h0 (some (.double (own_mean x nz)))) v U'.heap L ∧ FrameEnd U o U' L ({ frames := 0, cells := 0, slots := 0, locals := 0 } : Room).cells ({ frames := 0, cells := 0, slots := 0, locals := 0 } : Room).slots) := by
  refine goBody (y := (⟨"com/example/joulepath/joulepath/core/powerlog/SortedMeansFirstAbovePinLaw", "mean", "(JZ)D"⟩ : MethodName)) (Q := PQ h0 (some (.double (own_mean x nz)))) (plainFor_of_name (by first | (simp [plainName, overriddenIn]; done) | decide +kernel)) ?_
  intro p e s m below meth c T0 hx hZ hby hml hown hnm hret hlk X0 e0
  have hown : s.vm.findClass "com/example/joulepath/joulepath/core/powerlog/SortedMeansFirstAbovePinLaw" = some m.cls := hown
  refine Go.cast (g' := mkF m 0 #[.val (.long x), .second, .val (.int nz)] []) (by first | (simp [entryFrame, mkF, argsToLocals, Value.category]; done) | rfl) ?_
  show Go p e below _ T0 (mkF m 0 #[.val (.long x), .second, .val (.int nz)] [])
  refine Go.of (fun _ kz => XS.lloadN X0.here hx rfl (hb hby own_ed0) rfl kz) ?_
  show Go p e below _ T0 (mkF m 1 #[.val (.long x), .second, .val (.int nz)] [(.long x)])
  refine Go.of (fun _ kz => XS.lconst X0.here hx rfl (hb hby own_ed1) kz) ?_
  show Go p e below _ T0 (mkF m 2 #[.val (.long x), .second, .val (.int nz)] [(.long (0 : Int64)), (.long x)])
  refine Go.of (fun _ kz => XS.lcmp X0.here hx rfl (hb hby own_ed2) rfl kz) ?_
  show Go p e below _ T0 (mkF m 3 #[.val (.long x), .second, .val (.int nz)] [(.int (XS.cmpL x (0 : Int64)))])
  by_cases hc3 : (XS.cmpL x (0 : Int64)) = (0 : Int32)
  ·
    refine Go.of (fun _ kz => XS.ifNo X0.here hx rfl (hb hby own_ed3) rfl ((if0 _ _).trans (teq hc3).2) kz) ?_
    show Go p e below _ T0 (mkF m 6 #[.val (.long x), .second, .val (.int nz)] [])
    refine Go.of (fun _ kz => XS.iloadN X0.here hx rfl (hb hby own_ed6) rfl kz) ?_
    show Go p e below _ T0 (mkF m 7 #[.val (.long x), .second, .val (.int nz)] [(.int nz)])
    by_cases hc7 : nz = (0 : Int32)
    ·
      refine Go.of (fun _ kz => XS.ifYes X0.here hx rfl (pc0 := 7) (pc' := 16) rfl (hb hby own_ed7) rfl ((if0 _ _).trans (teq hc7).1) (by decide) (by decide) kz) ?_
      show Go p e below _ T0 (mkF m 16 #[.val (.long x), .second, .val (.int nz)] [])
      refine Go.of (fun _ kz => XS.lloadN X0.here hx rfl (hb hby own_ed16) rfl kz) ?_
      show Go p e below _ T0 (mkF m 17 #[.val (.long x), .second, .val (.int nz)] [(.long x)])
      refine Go.of (fun _ kz => XS.l2dS X0.here hx rfl (hb hby own_ed17) rfl rfl kz) ?_
      show Go p e below _ T0 (mkF m 18 #[.val (.long x), .second, .val (.int nz)] [(.double (FP.l2d x))])
      exact Go.retD X0 hx hlk hret (hb hby own_ed18) (by decide) (by decide) ⟨congrArg (fun z => some (Value.double z)) (show (FP.l2d x) = own_mean x nz by rw [own_mean, if_pos hc3, if_pos hc7]), rfl, e0⟩
    ·
      refine Go.of (fun _ kz => XS.ifNo X0.here hx rfl (hb hby own_ed7) rfl ((if0 _ _).trans (feq hc7).1) kz) ?_
      show Go p e below _ T0 (mkF m 10 #[.val (.long x), .second, .val (.int nz)] [])
      refine Go.of (X0.ldc2DoubleC hx hown (mvT hZ (hw _ (List.mem_of_getElem? (i := 32) rfl))) (g := (mkF m 10 #[.val (.long x), .second, .val (.int nz)] [])) rfl (hb hby own_ed10)) ?_
      show Go p e below _ T0 (mkF m 13 #[.val (.long x), .second, .val (.int nz)] [(.double (9223372036854775808 : UInt64))])
      refine Go.of (fun _ kz => XS.goto X0.here hx rfl (pc0 := 13) (pc' := 18) rfl (hb hby own_ed13) (by decide) (by decide) kz) ?_
      show Go p e below _ T0 (mkF m 18 #[.val (.long x), .second, .val (.int nz)] [(.double (9223372036854775808 : UInt64))])
      exact Go.retD X0 hx hlk hret (hb hby own_ed18) (by decide) (by decide) ⟨congrArg (fun z => some (Value.double z)) (show (9223372036854775808 : UInt64) = own_mean x nz by rw [own_mean, if_pos hc3, if_neg hc7]), rfl, e0⟩
  ·
    refine Go.of (fun _ kz => XS.ifYes X0.here hx rfl (pc0 := 3) (pc' := 16) rfl (hb hby own_ed3) rfl ((if0 _ _).trans (feq hc3).2) (by decide) (by decide) kz) ?_
    show Go p e below _ T0 (mkF m 16 #[.val (.long x), .second, .val (.int nz)] [])
    refine Go.of (fun _ kz => XS.lloadN X0.here hx rfl (hb hby own_ed16) rfl kz) ?_
    show Go p e below _ T0 (mkF m 17 #[.val (.long x), .second, .val (.int nz)] [(.long x)])
    refine Go.of (fun _ kz => XS.l2dS X0.here hx rfl (hb hby own_ed17) rfl rfl kz) ?_
    show Go p e below _ T0 (mkF m 18 #[.val (.long x), .second, .val (.int nz)] [(.double (FP.l2d x))])
    exact Go.retD X0 hx hlk hret (hb hby own_ed18) (by decide) (by decide) ⟨congrArg (fun z => some (Value.double z)) (show (FP.l2d x) = own_mean x nz by rw [own_mean, if_neg hc3]), rfl, e0⟩
theorem own_nd0 : decode method_4_code 0 = .ok (.iload_n 1, 1) := by decide +kernel
theorem own_nd1 : decode method_4_code 1 = .ok (.iload_n 2, 1) := by decide +kernel
theorem own_nd2 : decode method_4_code 2 = .ok (.if_icmp .ge 15, 3) := by decide +kernel
theorem own_nd5 : decode method_4_code 5 = .ok (.aload_n 0, 1) := by decide +kernel
theorem own_nd6 : decode method_4_code 6 = .ok (.iload_n 1, 1) := by decide +kernel
theorem own_nd7 : decode method_4_code 7 = .ok (.daload, 1) := by decide +kernel
theorem own_nd8 : decode method_4_code 8 = .ok (.dload_n 3, 1) := by decide +kernel
theorem own_nd9 : decode method_4_code 9 = .ok (.dcmp .l, 1) := by decide +kernel
theorem own_nd10 : decode method_4_code 10 = .ok (.ifCond .gt 7, 3) := by decide +kernel
theorem own_nd13 : decode method_4_code 13 = .ok (.iconst 1, 1) := by decide +kernel
theorem own_nd14 : decode method_4_code 14 = .ok (.goto 4, 3) := by decide +kernel
theorem own_nd17 : decode method_4_code 17 = .ok (.iconst 0, 1) := by decide +kernel
theorem own_nd18 : decode method_4_code 18 = .ok (.ireturn, 1) := by decide +kernel
set_option maxRecDepth 65536 in
set_option maxHeartbeats 40000000 in
theorem own_rmN (l : Launch) (Z : State) (a0 : Array Value) (hw : ∀ d ∈ tables_1, d.before a0 Z = true) (am : Addr) (q sz : Int32) (vv : UInt64) (km : ClassId) (ds : List UInt64) (h0 : Heap) (VA : Arv Z h0 am km .double 5 (ds.map Value.double) (.double 0)) (hq : ¬ q < 0 ∧ q < 5) :
    MetFree l (⟨"com/example/joulepath/joulepath/core/powerlog/SortedMeansFirstAbovePinLaw", "notAbove", "([DIID)I"⟩ : MethodName) (head1 [Jvm.Cond.code (⟨"com/example/joulepath/joulepath/core/powerlog/SortedMeansFirstAbovePinLaw", "notAbove", "([DIID)I"⟩ : MethodName) method_4_code 5 (some .int)] ({ frames := 0, cells := 0, slots := 0, locals := 0 } : Room)) (fun aa U => aa = #[(.ref am), (.int q), (.int sz), (.double vv)] ∧ Z.Warmed39 U.vm ∧ U.heap = h0) (fun _ _ _ _ _ => True) (fun _ U o U' => ∃ v L, o = .returned v ∧ (PQ h0 (some (.int (own_na (own_P ds vv) sz q)))) v U'.heap L ∧ FrameEnd U o U' L ({ frames := 0, cells := 0, slots := 0, locals := 0 } : Room).cells ({ frames := 0, cells := 0, slots := 0, locals := 0 } : Room).slots) := by
  refine goBody (y := (⟨"com/example/joulepath/joulepath/core/powerlog/SortedMeansFirstAbovePinLaw", "notAbove", "([DIID)I"⟩ : MethodName)) (Q := PQ h0 (some (.int (own_na (own_P ds vv) sz q)))) (plainFor_of_name (by first | (simp [plainName, overriddenIn]; done) | decide +kernel)) ?_
  intro p e s m below meth c T0 hx hZ hby hml hown hnm hret hlk X0 e0
  have hown : s.vm.findClass "com/example/joulepath/joulepath/core/powerlog/SortedMeansFirstAbovePinLaw" = some m.cls := hown
  refine Go.cast (g' := mkF m 0 #[.val (.ref am), .val (.int q), .val (.int sz), .val (.double vv), .second] []) (by first | (simp [entryFrame, mkF, argsToLocals, Value.category]; done) | rfl) ?_
  show Go p e below _ T0 (mkF m 0 #[.val (.ref am), .val (.int q), .val (.int sz), .val (.double vv), .second] [])
  refine Go.of (fun _ kz => XS.iloadN X0.here hx rfl (hb hby own_nd0) rfl kz) ?_
  show Go p e below _ T0 (mkF m 1 #[.val (.ref am), .val (.int q), .val (.int sz), .val (.double vv), .second] [(.int q)])
  refine Go.of (fun _ kz => XS.iloadN X0.here hx rfl (hb hby own_nd1) rfl kz) ?_
  show Go p e below _ T0 (mkF m 2 #[.val (.ref am), .val (.int q), .val (.int sz), .val (.double vv), .second] [(.int sz), (.int q)])
  by_cases hc2 : q < sz
  ·
    refine Go.of (fun _ kz => XS.icmpNo X0.here hx rfl (hb hby own_nd2) rfl (tlt hc2).2.1 kz) ?_
    show Go p e below _ T0 (mkF m 5 #[.val (.ref am), .val (.int q), .val (.int sz), .val (.double vv), .second] [])
    refine Go.of (fun _ kz => XS.aloadN X0.here hx rfl (hb hby own_nd5) rfl rfl kz) ?_
    show Go p e below _ T0 (mkF m 6 #[.val (.ref am), .val (.int q), .val (.int sz), .val (.double vv), .second] [(.ref am)])
    refine Go.of (fun _ kz => XS.iloadN X0.here hx rfl (hb hby own_nd6) rfl kz) ?_
    show Go p e below _ T0 (mkF m 7 #[.val (.ref am), .val (.int q), .val (.int sz), .val (.double vv), .second] [(.int q), (.ref am)])
    refine Go.daload X0 hx hZ e0 VA hq (v := (.double (ds.getD q.toNatClampNeg 0))) own_at (hb hby own_nd7) ?_
    show Go p e below _ T0 (mkF m 8 #[.val (.ref am), .val (.int q), .val (.int sz), .val (.double vv), .second] [(.double (ds.getD q.toNatClampNeg 0))])
    refine Go.of (fun _ kz => XS.dloadN X0.here hx rfl (hb hby own_nd8) rfl kz) ?_
    show Go p e below _ T0 (mkF m 9 #[.val (.ref am), .val (.int q), .val (.int sz), .val (.double vv), .second] [(.double vv), (.double (ds.getD q.toNatClampNeg 0))])
    refine Go.of (fun _ kz => XS.dcmpS X0.here hx rfl (hb hby own_nd9) rfl rfl kz) ?_
    show Go p e below _ T0 (mkF m 10 #[.val (.ref am), .val (.int q), .val (.int sz), .val (.double vv), .second] [(.int (cmpValue (FP.dcmp (ds.getD q.toNatClampNeg 0) vv) .l))])
    by_cases hc10 : (0 : Int32) < (cmpValue (FP.dcmp (ds.getD q.toNatClampNeg 0) vv) .l)
    ·
      refine Go.of (fun _ kz => XS.ifYes X0.here hx rfl (pc0 := 10) (pc' := 17) rfl (hb hby own_nd10) rfl ((if0 _ _).trans (tlt hc10).2.2.1) (by decide) (by decide) kz) ?_
      show Go p e below _ T0 (mkF m 17 #[.val (.ref am), .val (.int q), .val (.int sz), .val (.double vv), .second] [])
      refine Go.of (fun _ kz => XS.iconst X0.here hx rfl (hb hby own_nd17) kz) ?_
      show Go p e below _ T0 (mkF m 18 #[.val (.ref am), .val (.int q), .val (.int sz), .val (.double vv), .second] [(.int (0 : Int32))])
      exact Go.retI X0 hx hlk hret (hb hby own_nd18) (by decide) (by decide) ⟨congrArg (fun z => some (Value.int z)) (show (0 : Int32) = own_na (own_P ds vv) sz q by rw [own_na, if_pos hc2, if_pos (show own_P ds vv q = true from decide_eq_true hc10)]), rfl, e0⟩
    ·
      refine Go.of (fun _ kz => XS.ifNo X0.here hx rfl (hb hby own_nd10) rfl ((if0 _ _).trans (flt hc10).2.2.1) kz) ?_
      show Go p e below _ T0 (mkF m 13 #[.val (.ref am), .val (.int q), .val (.int sz), .val (.double vv), .second] [])
      refine Go.of (fun _ kz => XS.iconst X0.here hx rfl (hb hby own_nd13) kz) ?_
      show Go p e below _ T0 (mkF m 14 #[.val (.ref am), .val (.int q), .val (.int sz), .val (.double vv), .second] [(.int (1 : Int32))])
      refine Go.of (fun _ kz => XS.goto X0.here hx rfl (pc0 := 14) (pc' := 18) rfl (hb hby own_nd14) (by decide) (by decide) kz) ?_
      show Go p e below _ T0 (mkF m 18 #[.val (.ref am), .val (.int q), .val (.int sz), .val (.double vv), .second] [(.int (1 : Int32))])
      exact Go.retI X0 hx hlk hret (hb hby own_nd18) (by decide) (by decide) ⟨congrArg (fun z => some (Value.int z)) (show (1 : Int32) = own_na (own_P ds vv) sz q by rw [own_na, if_pos hc2, if_neg (fun z : own_P ds vv q = true => hc10 (of_decide_eq_true z))]), rfl, e0⟩
  ·
    refine Go.of (fun _ kz => XS.icmpYes X0.here hx rfl (pc0 := 2) (pc' := 17) rfl (hb hby own_nd2) rfl (flt hc2).2.1 (by decide) (by decide) kz) ?_
    show Go p e below _ T0 (mkF m 17 #[.val (.ref am), .val (.int q), .val (.int sz), .val (.double vv), .second] [])
    refine Go.of (fun _ kz => XS.iconst X0.here hx rfl (hb hby own_nd17) kz) ?_
    show Go p e below _ T0 (mkF m 18 #[.val (.ref am), .val (.int q), .val (.int sz), .val (.double vv), .second] [(.int (0 : Int32))])
    exact Go.retI X0 hx hlk hret (hb hby own_nd18) (by decide) (by decide) ⟨congrArg (fun z => some (Value.int z)) (show (0 : Int32) = own_na (own_P ds vv) sz q by rw [own_na, if_neg hc2]), rfl, e0⟩
theorem own_id0 : decode prog_151_method_1_code 0 = .ok (.aload_n 0, 1) := by decide +kernel
theorem own_id1 : decode prog_151_method_1_code 1 = .ok (.invokespecial 3, 3) := by decide +kernel
theorem own_id4 : decode prog_151_method_1_code 4 = .ok (.aload_n 0, 1) := by decide +kernel
theorem own_id5 : decode prog_151_method_1_code 5 = .ok (.aload_n 1, 1) := by decide +kernel
theorem own_id6 : decode prog_151_method_1_code 6 = .ok (.putfield 9, 3) := by decide +kernel
theorem own_id9 : decode prog_151_method_1_code 9 = .ok (.aload_n 0, 1) := by decide +kernel
theorem own_id10 : decode prog_151_method_1_code 10 = .ok (.iload_n 2, 1) := by decide +kernel
theorem own_id11 : decode prog_151_method_1_code 11 = .ok (.putfield 15, 3) := by decide +kernel
theorem own_id14 : decode prog_151_method_1_code 14 = .ok (.aload_n 0, 1) := by decide +kernel
theorem own_id15 : decode prog_151_method_1_code 15 = .ok (.aload_n 3, 1) := by decide +kernel
theorem own_id16 : decode prog_151_method_1_code 16 = .ok (.putfield 19, 3) := by decide +kernel
theorem own_id19 : decode prog_151_method_1_code 19 = .ok (.return_, 1) := by decide +kernel
abbrev own_rmI_Q (Z : State) (a am : Addr) (sz : Int32) (ab : Addr) (n0 : Nat) (h0 : Heap) : Option Value → Heap → List Loc → Prop := fun v h L => v = none ∧ Fr n0 L ∧ Keep h0 h [a] ∧ Exa Z h a "com/example/joulepath/joulepath/core/powerlog/SortedMeans" ∧ Fld Z h a "com/example/joulepath/joulepath/core/powerlog/SortedMeans" "means" "[D" (.ref am) ∧ Fld Z h a "com/example/joulepath/joulepath/core/powerlog/SortedMeans" "size" "I" (.int sz)
set_option maxRecDepth 65536 in
set_option maxHeartbeats 40000000 in
theorem own_rmI (l : Launch) (Z : State) (a0 : Array Value) (hw : ∀ d ∈ tables_1, d.before a0 Z = true) (a am : Addr) (sz : Int32) (ab : Addr) (n0 : Nat) (h0 : Heap) (Z0 : n0 ≤ h0.size) (ga : n0 ≤ a) (EA : Exa Z h0 a "com/example/joulepath/joulepath/core/powerlog/SortedMeans") (F_means : Fld Z h0 a "com/example/joulepath/joulepath/core/powerlog/SortedMeans" "means" "[D" .null) (F_size : Fld Z h0 a "com/example/joulepath/joulepath/core/powerlog/SortedMeans" "size" "I" (.int 0)) (F_before : Fld Z h0 a "com/example/joulepath/joulepath/core/powerlog/SortedMeans" "before" "[J" .null) :
    MetFree l (⟨"com/example/joulepath/joulepath/core/powerlog/SortedMeans", "<init>", "([DI[J)V"⟩ : MethodName) (head1 [Jvm.Cond.code (⟨"com/example/joulepath/joulepath/core/powerlog/SortedMeans", "<init>", "([DI[J)V"⟩ : MethodName) prog_151_method_1_code 4 none] ({ frames := 1, cells := 0, slots := 0, locals := 12 } : Room)) (fun aa U => aa = #[(.ref a), (.ref am), (.int sz), (.ref ab)] ∧ Z.Warmed39 U.vm ∧ U.heap = h0) (fun _ _ _ _ _ => True) (fun _ U o U' => ∃ v L, o = .returned v ∧ ((own_rmI_Q Z a am sz ab n0 h0)) v U'.heap L ∧ FrameEnd U o U' L ({ frames := 1, cells := 0, slots := 0, locals := 12 } : Room).cells ({ frames := 1, cells := 0, slots := 0, locals := 12 } : Room).slots) := by
  refine goBody (y := (⟨"com/example/joulepath/joulepath/core/powerlog/SortedMeans", "<init>", "([DI[J)V"⟩ : MethodName)) (Q := (own_rmI_Q Z a am sz ab n0 h0)) (plainFor_of_name (by first | (simp [plainName, overriddenIn]; done) | decide +kernel)) ?_
  intro p e s m below meth c T0 hx hZ hby hml hown hnm hret hlk X0 e0
  have hown : s.vm.findClass "com/example/joulepath/joulepath/core/powerlog/SortedMeans" = some m.cls := hown
  refine Go.cast (g' := mkF m 0 #[.val (.ref a), .val (.ref am), .val (.int sz), .val (.ref ab)] []) (by first | (simp [entryFrame, mkF, argsToLocals, Value.category]; done) | rfl) ?_
  show Go p e below _ T0 (mkF m 0 #[.val (.ref a), .val (.ref am), .val (.int sz), .val (.ref ab)] [])
  refine Go.of (fun _ kz => XS.aloadN X0.here hx rfl (hb hby own_id0) rfl rfl kz) ?_
  show Go p e below _ T0 (mkF m 1 #[.val (.ref a), .val (.ref am), .val (.int sz), .val (.ref ab)] [(.ref a)])
  refine Go.initObj X0 hx hZ hown (hw _ (List.mem_of_getElem? (i := 15) rfl)) (hw _ (List.mem_of_getElem? (i := 16) rfl)) (hw _ (List.mem_of_getElem? (i := 17) rfl)) e0 (by rw [hml]; rfl) (hb hby own_id1) (by decide) (W := 0) (Nat.le_of_eq rfl) (by decide) fun T1 X1 e1 => ?_
  show Go p e below _ T1 (mkF m 4 #[.val (.ref a), .val (.ref am), .val (.int sz), .val (.ref ab)] [])
  refine Go.of (fun _ kz => XS.aloadN X1.here hx rfl (hb hby own_id4) rfl rfl kz) ?_
  show Go p e below _ T1 (mkF m 5 #[.val (.ref a), .val (.ref am), .val (.int sz), .val (.ref ab)] [(.ref a)])
  refine Go.of (fun _ kz => XS.aloadN X1.here hx rfl (hb hby own_id5) rfl rfl kz) ?_
  show Go p e below _ T1 (mkF m 6 #[.val (.ref a), .val (.ref am), .val (.int sz), .val (.ref ab)] [(.ref am), (.ref a)])
  refine Go.putf X1 hx hZ hown (hw _ (List.mem_of_getElem? (i := 18) rfl)) Via.refl e1 F_means EA (Or.inr ⟨(hw _ (List.mem_of_getElem? (i := 19) rfl)), rfl, hnm⟩) (hw _ (List.mem_of_getElem? (i := 9) rfl)) (ty := (.array .double)) (by decide) rfl rfl (hb hby own_id6) fun T2 h2 X2 e2 W2 F2 A2 => ?_
  have sz2 : n0 ≤ h2.size := Nat.le_trans Z0 (Keep.of_wr W2).1
  have kp2 : Keep h0 h2 [a] := (Keep.refl h0 [a]).wr W2 (Or.inl (List.mem_of_getElem? (i := 0) rfl))
  have N2 := Fr.snoc X2 (Fr.nil n0) ga
  show Go p e below _ T2 (mkF m 9 #[.val (.ref a), .val (.ref am), .val (.int sz), .val (.ref ab)] [])
  refine Go.of (fun _ kz => XS.aloadN X2.here hx rfl (hb hby own_id9) rfl rfl kz) ?_
  show Go p e below _ T2 (mkF m 10 #[.val (.ref a), .val (.ref am), .val (.int sz), .val (.ref ab)] [(.ref a)])
  refine Go.of (fun _ kz => XS.iloadN X2.here hx rfl (hb hby own_id10) rfl kz) ?_
  show Go p e below _ T2 (mkF m 11 #[.val (.ref a), .val (.ref am), .val (.int sz), .val (.ref ab)] [(.int sz), (.ref a)])
  refine Go.putf X2 hx hZ hown (hw _ (List.mem_of_getElem? (i := 20) rfl)) Via.refl e2 (F_size.other W2 (Or.inr (slot_ne (Or.inr (hw _ (List.mem_of_getElem? (i := 21) rfl))) (Or.inr (hw _ (List.mem_of_getElem? (i := 19) rfl))) (by decide) (t := .int) (t' := (.array .double)) (by decide) (by decide)))) A2 (Or.inr ⟨(hw _ (List.mem_of_getElem? (i := 21) rfl)), rfl, hnm⟩) (hw _ (List.mem_of_getElem? (i := 9) rfl)) (ty := .int) (by decide) rfl rfl (hb hby own_id11) fun T3 h3 X3 e3 W3 F3 A3 => ?_
  have sz3 : n0 ≤ h3.size := Nat.le_trans sz2 (Keep.of_wr W3).1
  have kp3 : Keep h0 h3 [a] := kp2.wr W3 (Or.inl (List.mem_of_getElem? (i := 0) rfl))
  have N3 := Fr.snoc X3 N2 ga
  show Go p e below _ T3 (mkF m 14 #[.val (.ref a), .val (.ref am), .val (.int sz), .val (.ref ab)] [])
  refine Go.of (fun _ kz => XS.aloadN X3.here hx rfl (hb hby own_id14) rfl rfl kz) ?_
  show Go p e below _ T3 (mkF m 15 #[.val (.ref a), .val (.ref am), .val (.int sz), .val (.ref ab)] [(.ref a)])
  refine Go.of (fun _ kz => XS.aloadN X3.here hx rfl (hb hby own_id15) rfl rfl kz) ?_
  show Go p e below _ T3 (mkF m 16 #[.val (.ref a), .val (.ref am), .val (.int sz), .val (.ref ab)] [(.ref ab), (.ref a)])
  refine Go.putf X3 hx hZ hown (hw _ (List.mem_of_getElem? (i := 22) rfl)) Via.refl e3 ((F_before.other W2 (Or.inr (slot_ne (Or.inr (hw _ (List.mem_of_getElem? (i := 23) rfl))) (Or.inr (hw _ (List.mem_of_getElem? (i := 19) rfl))) (by decide) (t := (.array .long)) (t' := (.array .double)) (by decide) (by decide)))).other W3 (Or.inr (slot_ne (Or.inr (hw _ (List.mem_of_getElem? (i := 23) rfl))) (Or.inr (hw _ (List.mem_of_getElem? (i := 21) rfl))) (by decide) (t := (.array .long)) (t' := .int) (by decide) (by decide)))) A3 (Or.inr ⟨(hw _ (List.mem_of_getElem? (i := 23) rfl)), rfl, hnm⟩) (hw _ (List.mem_of_getElem? (i := 9) rfl)) (ty := (.array .long)) (by decide) rfl rfl (hb hby own_id16) fun T4 h4 X4 e4 W4 F4 A4 => ?_
  have sz4 : n0 ≤ h4.size := Nat.le_trans sz3 (Keep.of_wr W4).1
  have kp4 : Keep h0 h4 [a] := kp3.wr W4 (Or.inl (List.mem_of_getElem? (i := 0) rfl))
  have N4 := Fr.snoc X4 N3 ga
  show Go p e below _ T4 (mkF m 19 #[.val (.ref a), .val (.ref am), .val (.int sz), .val (.ref ab)] [])
  exact Go.retV X4 hx hlk hret (hb hby own_id19) (by decide) (by decide) (by rw [e4]; exact ⟨rfl, N4, kp4, A4, ((F2.other W3 (Or.inr (slot_ne (Or.inr (hw _ (List.mem_of_getElem? (i := 19) rfl))) (Or.inr (hw _ (List.mem_of_getElem? (i := 21) rfl))) (by decide) (t := (.array .double)) (t' := .int) (by decide) (by decide)))).other W4 (Or.inr (slot_ne (Or.inr (hw _ (List.mem_of_getElem? (i := 19) rfl))) (Or.inr (hw _ (List.mem_of_getElem? (i := 23) rfl))) (by decide) (t := (.array .double)) (t' := (.array .long)) (by decide) (by decide)))), (F3.other W4 (Or.inr (slot_ne (Or.inr (hw _ (List.mem_of_getElem? (i := 21) rfl))) (Or.inr (hw _ (List.mem_of_getElem? (i := 23) rfl))) (by decide) (t := .int) (t' := (.array .long)) (by decide) (by decide))))⟩)
theorem own_fd0 : decode prog_151_method_4_code 0 = .ok (.iconst 0, 1) := by decide +kernel
theorem own_fd1 : decode prog_151_method_4_code 1 = .ok (.istore_n 3, 1) := by decide +kernel
theorem own_fd2 : decode prog_151_method_4_code 2 = .ok (.aload_n 0, 1) := by decide +kernel
theorem own_fd3 : decode prog_151_method_4_code 3 = .ok (.getfield 15, 3) := by decide +kernel
theorem own_fd6 : decode prog_151_method_4_code 6 = .ok (.istore 4, 2) := by decide +kernel
theorem own_fd8 : decode prog_151_method_4_code 8 = .ok (.iload_n 3, 1) := by decide +kernel
theorem own_fd9 : decode prog_151_method_4_code 9 = .ok (.iload 4, 2) := by decide +kernel
theorem own_fd11 : decode prog_151_method_4_code 11 = .ok (.if_icmp .ge 38, 3) := by decide +kernel
theorem own_fd14 : decode prog_151_method_4_code 14 = .ok (.iload_n 3, 1) := by decide +kernel
theorem own_fd15 : decode prog_151_method_4_code 15 = .ok (.iload 4, 2) := by decide +kernel
theorem own_fd17 : decode prog_151_method_4_code 17 = .ok (.iadd, 1) := by decide +kernel
theorem own_fd18 : decode prog_151_method_4_code 18 = .ok (.iconst 1, 1) := by decide +kernel
theorem own_fd19 : decode prog_151_method_4_code 19 = .ok (.iushr, 1) := by decide +kernel
theorem own_fd20 : decode prog_151_method_4_code 20 = .ok (.istore 5, 2) := by decide +kernel
theorem own_fd22 : decode prog_151_method_4_code 22 = .ok (.aload_n 0, 1) := by decide +kernel
theorem own_fd23 : decode prog_151_method_4_code 23 = .ok (.getfield 9, 3) := by decide +kernel
theorem own_fd26 : decode prog_151_method_4_code 26 = .ok (.iload 5, 2) := by decide +kernel
theorem own_fd28 : decode prog_151_method_4_code 28 = .ok (.daload, 1) := by decide +kernel
theorem own_fd29 : decode prog_151_method_4_code 29 = .ok (.dload_n 1, 1) := by decide +kernel
theorem own_fd30 : decode prog_151_method_4_code 30 = .ok (.dcmp .l, 1) := by decide +kernel
theorem own_fd31 : decode prog_151_method_4_code 31 = .ok (.ifCond .le 10, 3) := by decide +kernel
theorem own_fd34 : decode prog_151_method_4_code 34 = .ok (.iload 5, 2) := by decide +kernel
theorem own_fd36 : decode prog_151_method_4_code 36 = .ok (.istore 4, 2) := by decide +kernel
theorem own_fd38 : decode prog_151_method_4_code 38 = .ok (.goto 8, 3) := by decide +kernel
theorem own_fd41 : decode prog_151_method_4_code 41 = .ok (.iload 5, 2) := by decide +kernel
theorem own_fd43 : decode prog_151_method_4_code 43 = .ok (.iconst 1, 1) := by decide +kernel
theorem own_fd44 : decode prog_151_method_4_code 44 = .ok (.iadd, 1) := by decide +kernel
theorem own_fd45 : decode prog_151_method_4_code 45 = .ok (.istore_n 3, 1) := by decide +kernel
theorem own_fd46 : decode prog_151_method_4_code 46 = .ok (.goto (-38), 3) := by decide +kernel
theorem own_fd49 : decode prog_151_method_4_code 49 = .ok (.iload_n 3, 1) := by decide +kernel
theorem own_fd50 : decode prog_151_method_4_code 50 = .ok (.ireturn, 1) := by decide +kernel
theorem own_fos20 {z0 : Value} {z1 : Value} {z3 : Value} {z4 : Value} {s5 : Slot} {v : Int32} (h : One s5) : storeLocals #[.val z0, .val z1, .second, .val z3, .val z4, s5] 5 (.int v) = some #[.val z0, .val z1, .second, .val z3, .val z4, .val (.int v)] := by
  rcases h with rfl | ⟨w, rfl, hw⟩
  · rfl
  · cases w <;> first | rfl | (simp [Value.category] at hw)
set_option maxRecDepth 65536 in
set_option maxHeartbeats 40000000 in
theorem own_rmF (l : Launch) (Z : State) (a0 : Array Value) (hw : ∀ d ∈ tables_1, d.before a0 Z = true) (a am : Addr) (sz : Int32) (vv : UInt64) (km : ClassId) (ds : List UInt64) (h0 : Heap) (VA : Arv Z h0 am km .double 5 (ds.map Value.double) (.double 0)) (FM : Fld Z h0 a "com/example/joulepath/joulepath/core/powerlog/SortedMeans" "means" "[D" (.ref am)) (FS : Fld Z h0 a "com/example/joulepath/joulepath/core/powerlog/SortedMeans" "size" "I" (.int sz)) (hsz : 0 ≤ sz.toInt ∧ sz.toInt < 6) :
    MetFree l (⟨"com/example/joulepath/joulepath/core/powerlog/SortedMeans", "firstAbove", "(D)I"⟩ : MethodName) (head1 [Jvm.Cond.code (⟨"com/example/joulepath/joulepath/core/powerlog/SortedMeans", "firstAbove", "(D)I"⟩ : MethodName) prog_151_method_4_code 6 (some .int)] ({ frames := 0, cells := 0, slots := 0, locals := 0 } : Room)) (fun aa U => aa = #[(.ref a), (.double vv)] ∧ Z.Warmed39 U.vm ∧ U.heap = h0) (fun _ _ _ _ _ => True) (fun _ U o U' => ∃ v L, o = .returned v ∧ (PQ h0 (some (.int (own_bs 6 (own_P ds vv) 0 sz)))) v U'.heap L ∧ FrameEnd U o U' L ({ frames := 0, cells := 0, slots := 0, locals := 0 } : Room).cells ({ frames := 0, cells := 0, slots := 0, locals := 0 } : Room).slots) := by
  refine goBody (y := (⟨"com/example/joulepath/joulepath/core/powerlog/SortedMeans", "firstAbove", "(D)I"⟩ : MethodName)) (Q := PQ h0 (some (.int (own_bs 6 (own_P ds vv) 0 sz)))) (plainFor_of_name (by first | (simp [plainName, overriddenIn]; done) | decide +kernel)) ?_
  intro p e s m below meth c T0 hx hZ hby hml hown hnm hret hlk X0 e0
  have hown : s.vm.findClass "com/example/joulepath/joulepath/core/powerlog/SortedMeans" = some m.cls := hown
  refine Go.cast (g' := mkF m 0 #[.val (.ref a), .val (.double vv), .second, .unset, .unset, .unset] []) (by first | (simp [entryFrame, mkF, argsToLocals, Value.category]; done) | rfl) ?_
  have loop : ∀ (n : Nat) (lo hi : Int32) (s5 : Slot) (T : State), One s5 → Stand p l e ({ frames := 0, cells := 0, slots := 0, locals := 0 } : Room) s m #[(.ref a), (.double vv)] below meth c T [] 0 0 → T.heap = h0 → 0 ≤ lo.toInt → hi.toInt < 6 → hi.toInt - lo.toInt ≤ (n : Int) → own_bs n (own_P ds vv) lo hi = own_bs 6 (own_P ds vv) 0 sz → Go p e below (GoEnd s ({ frames := 0, cells := 0, slots := 0, locals := 0 } : Room).cells ({ frames := 0, cells := 0, slots := 0, locals := 0 } : Room).slots (PQ h0 (some (.int (own_bs 6 (own_P ds vv) 0 sz))))) T (mkF m 8 #[.val (.ref a), .val (.double vv), .second, .val (.int lo), .val (.int hi), s5] []) := by
    intro n
    induction n with
    | zero =>
      intro lo hi s5 T hs5 X e' h1 h2 h3 h4
      show Go p e below _ T (mkF m 8 #[.val (.ref a), .val (.double vv), .second, .val (.int lo), .val (.int hi), s5] [])
      refine Go.of (fun _ kz => XS.iloadN X.here hx rfl (hb hby own_fd8) rfl kz) ?_
      show Go p e below _ T (mkF m 9 #[.val (.ref a), .val (.double vv), .second, .val (.int lo), .val (.int hi), s5] [(.int lo)])
      refine Go.of (fun _ kz => XS.iload X.here hx rfl (hb hby own_fd9) rfl kz) ?_
      show Go p e below _ T (mkF m 11 #[.val (.ref a), .val (.double vv), .second, .val (.int lo), .val (.int hi), s5] [(.int hi), (.int lo)])
      refine Go.of (fun _ kz => XS.icmpYes X.here hx rfl (pc0 := 11) (pc' := 49) rfl (hb hby own_fd11) rfl (flt (own_nlt h3)).2.1 (by decide) (by decide) kz) ?_
      show Go p e below _ T (mkF m 49 #[.val (.ref a), .val (.double vv), .second, .val (.int lo), .val (.int hi), s5] [])
      refine Go.of (fun _ kz => XS.iloadN X.here hx rfl (hb hby own_fd49) rfl kz) ?_
      show Go p e below _ T (mkF m 50 #[.val (.ref a), .val (.double vv), .second, .val (.int lo), .val (.int hi), s5] [(.int lo)])
      exact Go.retI X hx hlk hret (hb hby own_fd50) (by decide) (by decide) ⟨congrArg (fun z => some (Value.int z)) h4, rfl, e'⟩
    | succ n ih =>
      intro lo hi s5 T hs5 X e' h1 h2 h3 h4
      simp only [own_bs] at h4
      show Go p e below _ T (mkF m 8 #[.val (.ref a), .val (.double vv), .second, .val (.int lo), .val (.int hi), s5] [])
      refine Go.of (fun _ kz => XS.iloadN X.here hx rfl (hb hby own_fd8) rfl kz) ?_
      show Go p e below _ T (mkF m 9 #[.val (.ref a), .val (.double vv), .second, .val (.int lo), .val (.int hi), s5] [(.int lo)])
      refine Go.of (fun _ kz => XS.iload X.here hx rfl (hb hby own_fd9) rfl kz) ?_
      show Go p e below _ T (mkF m 11 #[.val (.ref a), .val (.double vv), .second, .val (.int lo), .val (.int hi), s5] [(.int hi), (.int lo)])
      by_cases hc11 : lo < hi
      ·
        refine Go.of (fun _ kz => XS.icmpNo X.here hx rfl (hb hby own_fd11) rfl (tlt hc11).2.1 kz) ?_
        show Go p e below _ T (mkF m 14 #[.val (.ref a), .val (.double vv), .second, .val (.int lo), .val (.int hi), s5] [])
        refine Go.of (fun _ kz => XS.iloadN X.here hx rfl (hb hby own_fd14) rfl kz) ?_
        show Go p e below _ T (mkF m 15 #[.val (.ref a), .val (.double vv), .second, .val (.int lo), .val (.int hi), s5] [(.int lo)])
        refine Go.of (fun _ kz => XS.iload X.here hx rfl (hb hby own_fd15) rfl kz) ?_
        show Go p e below _ T (mkF m 17 #[.val (.ref a), .val (.double vv), .second, .val (.int lo), .val (.int hi), s5] [(.int hi), (.int lo)])
        refine Go.of (fun _ kz => XS.iadd X.here hx rfl (hb hby own_fd17) rfl kz) ?_
        show Go p e below _ T (mkF m 18 #[.val (.ref a), .val (.double vv), .second, .val (.int lo), .val (.int hi), s5] [(.int (lo + hi))])
        refine Go.of (fun _ kz => XS.iconst X.here hx rfl (hb hby own_fd18) kz) ?_
        show Go p e below _ T (mkF m 19 #[.val (.ref a), .val (.double vv), .second, .val (.int lo), .val (.int hi), s5] [(.int (1 : Int32)), (.int (lo + hi))])
        refine Go.of (fun _ kz => XS.iushr X.here hx rfl (hb hby own_fd19) rfl kz) ?_
        show Go p e below _ T (mkF m 20 #[.val (.ref a), .val (.double vv), .second, .val (.int lo), .val (.int hi), s5] [(.int (XS.ushr (lo + hi) (1 : Int32)))])
        generalize h_mid : (XS.ushr (lo + hi) (1 : Int32)) = mid
        rw [h_mid, if_pos hc11] at h4
        obtain ⟨m1, m2⟩ := own_mid h1 hc11 h2 h_mid
        refine Go.of (fun _ kz => XS.istore X.here hx rfl (hb hby own_fd20) rfl (l' := #[.val (.ref a), .val (.double vv), .second, .val (.int lo), .val (.int hi), .val (.int mid)]) (own_fos20 hs5) kz) ?_
        show Go p e below _ T (mkF m 22 #[.val (.ref a), .val (.double vv), .second, .val (.int lo), .val (.int hi), .val (.int mid)] [])
        refine Go.of (fun _ kz => XS.aloadN X.here hx rfl (hb hby own_fd22) rfl rfl kz) ?_
        show Go p e below _ T (mkF m 23 #[.val (.ref a), .val (.double vv), .second, .val (.int lo), .val (.int hi), .val (.int mid)] [(.ref a)])
        refine Go.getf X hx hZ hown (hw _ (List.mem_of_getElem? (i := 18) rfl)) Via.refl e' FM (hb hby own_fd23) fun T1 X1 e1 => ?_
        show Go p e below _ T1 (mkF m 26 #[.val (.ref a), .val (.double vv), .second, .val (.int lo), .val (.int hi), .val (.int mid)] [(.ref am)])
        refine Go.of (fun _ kz => XS.iload X1.here hx rfl (hb hby own_fd26) rfl kz) ?_
        show Go p e below _ T1 (mkF m 28 #[.val (.ref a), .val (.double vv), .second, .val (.int lo), .val (.int hi), .val (.int mid)] [(.int mid), (.ref am)])
        refine Go.daload X1 hx hZ e1 VA (own_idx (by omega) m2 h2) (v := (.double (ds.getD mid.toNatClampNeg 0))) own_at (hb hby own_fd28) ?_
        show Go p e below _ T1 (mkF m 29 #[.val (.ref a), .val (.double vv), .second, .val (.int lo), .val (.int hi), .val (.int mid)] [(.double (ds.getD mid.toNatClampNeg 0))])
        refine Go.of (fun _ kz => XS.dloadN X1.here hx rfl (hb hby own_fd29) rfl kz) ?_
        show Go p e below _ T1 (mkF m 30 #[.val (.ref a), .val (.double vv), .second, .val (.int lo), .val (.int hi), .val (.int mid)] [(.double vv), (.double (ds.getD mid.toNatClampNeg 0))])
        refine Go.of (fun _ kz => XS.dcmpS X1.here hx rfl (hb hby own_fd30) rfl rfl kz) ?_
        show Go p e below _ T1 (mkF m 31 #[.val (.ref a), .val (.double vv), .second, .val (.int lo), .val (.int hi), .val (.int mid)] [(.int (cmpValue (FP.dcmp (ds.getD mid.toNatClampNeg 0) vv) .l))])
        by_cases hc31 : (0 : Int32) < (cmpValue (FP.dcmp (ds.getD mid.toNatClampNeg 0) vv) .l)
        ·
          refine Go.of (fun _ kz => XS.ifNo X1.here hx rfl (hb hby own_fd31) rfl ((if0 _ _).trans (tlt hc31).2.2.2) kz) ?_
          show Go p e below _ T1 (mkF m 34 #[.val (.ref a), .val (.double vv), .second, .val (.int lo), .val (.int hi), .val (.int mid)] [])
          refine Go.of (fun _ kz => XS.iload X1.here hx rfl (hb hby own_fd34) rfl kz) ?_
          show Go p e below _ T1 (mkF m 36 #[.val (.ref a), .val (.double vv), .second, .val (.int lo), .val (.int hi), .val (.int mid)] [(.int mid)])
          refine Go.of (fun _ kz => XS.istore X1.here hx rfl (hb hby own_fd36) rfl (l' := #[.val (.ref a), .val (.double vv), .second, .val (.int lo), .val (.int mid), .val (.int mid)]) rfl kz) ?_
          show Go p e below _ T1 (mkF m 38 #[.val (.ref a), .val (.double vv), .second, .val (.int lo), .val (.int mid), .val (.int mid)] [])
          refine Go.of (fun _ kz => XS.goto X1.here hx rfl (pc0 := 38) (pc' := 46) rfl (hb hby own_fd38) (by decide) (by decide) kz) ?_
          show Go p e below _ T1 (mkF m 46 #[.val (.ref a), .val (.double vv), .second, .val (.int lo), .val (.int mid), .val (.int mid)] [])
          refine Go.of (fun _ kz => XS.goto X1.here hx rfl (pc0 := 46) (pc' := 8) rfl (hb hby own_fd46) (by decide) (by decide) kz) ?_
          show Go p e below _ T1 (mkF m 8 #[.val (.ref a), .val (.double vv), .second, .val (.int lo), .val (.int mid), .val (.int mid)] [])
          exact ih lo mid _ _ (One.val rfl) X1 e1 h1 (by omega) (by omega) (by rw [if_pos (by simp only [own_P]; exact decide_eq_true hc31)] at h4; exact h4)
        ·
          refine Go.of (fun _ kz => XS.ifYes X1.here hx rfl (pc0 := 31) (pc' := 41) rfl (hb hby own_fd31) rfl ((if0 _ _).trans (flt hc31).2.2.2) (by decide) (by decide) kz) ?_
          show Go p e below _ T1 (mkF m 41 #[.val (.ref a), .val (.double vv), .second, .val (.int lo), .val (.int hi), .val (.int mid)] [])
          refine Go.of (fun _ kz => XS.iload X1.here hx rfl (hb hby own_fd41) rfl kz) ?_
          show Go p e below _ T1 (mkF m 43 #[.val (.ref a), .val (.double vv), .second, .val (.int lo), .val (.int hi), .val (.int mid)] [(.int mid)])
          refine Go.of (fun _ kz => XS.iconst X1.here hx rfl (hb hby own_fd43) kz) ?_
          show Go p e below _ T1 (mkF m 44 #[.val (.ref a), .val (.double vv), .second, .val (.int lo), .val (.int hi), .val (.int mid)] [(.int (1 : Int32)), (.int mid)])
          refine Go.of (fun _ kz => XS.iadd X1.here hx rfl (hb hby own_fd44) rfl kz) ?_
          show Go p e below _ T1 (mkF m 45 #[.val (.ref a), .val (.double vv), .second, .val (.int lo), .val (.int hi), .val (.int mid)] [(.int (mid + (1 : Int32)))])
          refine Go.of (fun _ kz => XS.istoreN X1.here hx rfl (hb hby own_fd45) rfl (l' := #[.val (.ref a), .val (.double vv), .second, .val (.int (mid + (1 : Int32))), .val (.int hi), .val (.int mid)]) rfl kz) ?_
          show Go p e below _ T1 (mkF m 46 #[.val (.ref a), .val (.double vv), .second, .val (.int (mid + (1 : Int32))), .val (.int hi), .val (.int mid)] [])
          refine Go.of (fun _ kz => XS.goto X1.here hx rfl (pc0 := 46) (pc' := 8) rfl (hb hby own_fd46) (by decide) (by decide) kz) ?_
          show Go p e below _ T1 (mkF m 8 #[.val (.ref a), .val (.double vv), .second, .val (.int (mid + (1 : Int32))), .val (.int hi), .val (.int mid)] [])
          exact ih (mid + 1) hi _ _ (One.val rfl) X1 e1 (by rw [own_up m2 h2 (by omega)]; omega) h2 (by rw [own_up m2 h2 (by omega)]; omega) (by rw [if_neg (by simp only [own_P]; exact fun q => hc31 (of_decide_eq_true q))] at h4; exact h4)
      ·
        refine Go.of (fun _ kz => XS.icmpYes X.here hx rfl (pc0 := 11) (pc' := 49) rfl (hb hby own_fd11) rfl (flt hc11).2.1 (by decide) (by decide) kz) ?_
        show Go p e below _ T (mkF m 49 #[.val (.ref a), .val (.double vv), .second, .val (.int lo), .val (.int hi), s5] [])
        refine Go.of (fun _ kz => XS.iloadN X.here hx rfl (hb hby own_fd49) rfl kz) ?_
        show Go p e below _ T (mkF m 50 #[.val (.ref a), .val (.double vv), .second, .val (.int lo), .val (.int hi), s5] [(.int lo)])
        exact Go.retI X hx hlk hret (hb hby own_fd50) (by decide) (by decide) ⟨congrArg (fun z => some (Value.int z)) (by rw [if_neg hc11] at h4; exact h4), rfl, e'⟩
  show Go p e below _ T0 (mkF m 0 #[.val (.ref a), .val (.double vv), .second, .unset, .unset, .unset] [])
  refine Go.of (fun _ kz => XS.iconst X0.here hx rfl (hb hby own_fd0) kz) ?_
  show Go p e below _ T0 (mkF m 1 #[.val (.ref a), .val (.double vv), .second, .unset, .unset, .unset] [(.int (0 : Int32))])
  refine Go.of (fun _ kz => XS.istoreN X0.here hx rfl (hb hby own_fd1) rfl (l' := #[.val (.ref a), .val (.double vv), .second, .val (.int (0 : Int32)), .unset, .unset]) rfl kz) ?_
  show Go p e below _ T0 (mkF m 2 #[.val (.ref a), .val (.double vv), .second, .val (.int (0 : Int32)), .unset, .unset] [])
  refine Go.of (fun _ kz => XS.aloadN X0.here hx rfl (hb hby own_fd2) rfl rfl kz) ?_
  show Go p e below _ T0 (mkF m 3 #[.val (.ref a), .val (.double vv), .second, .val (.int (0 : Int32)), .unset, .unset] [(.ref a)])
  refine Go.getf X0 hx hZ hown (hw _ (List.mem_of_getElem? (i := 20) rfl)) Via.refl e0 FS (hb hby own_fd3) fun T2 X2 e2 => ?_
  show Go p e below _ T2 (mkF m 6 #[.val (.ref a), .val (.double vv), .second, .val (.int (0 : Int32)), .unset, .unset] [(.int sz)])
  refine Go.of (fun _ kz => XS.istore X2.here hx rfl (hb hby own_fd6) rfl (l' := #[.val (.ref a), .val (.double vv), .second, .val (.int (0 : Int32)), .val (.int sz), .unset]) rfl kz) ?_
  show Go p e below _ T2 (mkF m 8 #[.val (.ref a), .val (.double vv), .second, .val (.int (0 : Int32)), .val (.int sz), .unset] [])
  exact loop 6 0 sz .unset _ One.u X2 e2 (by decide) hsz.2 (by rw [own_c0]; omega) rfl
set_option maxRecDepth 65536 in
set_option maxHeartbeats 40000000 in
theorem rm0 (l : Launch) (Z : State) (a0 : Array Value) (hw : ∀ d ∈ tables_1, d.before a0 Z = true) (ws : List Jvm.Cond) (xa : Int32) (gaps : Int64) (sel xv : Int32) (h0 : Heap)  :
    MetFree l x (head1 (Jvm.Cond.code x code maxLocals ret :: ws) room_1) (fun aa U => aa = #[(.int xa), (.long gaps), (.int sel), (.int xv)] ∧ Z.Warmed39 U.vm ∧ U.heap = h0) (fun _ _ _ _ _ => True) (fun _ U o U' => ∃ v L, o = .returned v ∧ (fun v _ L => v = some (.int 1) ∧ Fr h0.size L) v U'.heap L ∧ FrameEnd U o U' L room_1.cells room_1.slots) := by
  refine goBody (y := x) (Q := fun v _ L => v = some (.int 1) ∧ Fr h0.size L) (plainFor_of_name (by first | (simp [plainName, overriddenIn]; done) | decide +kernel)) ?_
  intro p e s m below meth c T0 hx hZ hby hml hown hnm hret hlk X0 e0
  have hown : s.vm.findClass "com/example/joulepath/joulepath/core/powerlog/SortedMeansFirstAbovePinLaw" = some m.cls := hown
  have hml : c.maxLocals = 26 := hml
  refine Go.cast (g' := mkF m 0 #[.val (.int xa), .val (.long gaps), .second, .val (.int sel), .val (.int xv), .unset, .unset, .unset, .unset, .unset, .unset, .unset, .unset, .unset, .unset, .unset, .unset, .unset, .unset, .unset, .unset, .unset, .unset, .unset, .unset, .unset] []) (by first | (simp [entryFrame, mkF, argsToLocals, Value.category, maxLocals]; done) | rfl) ?_
  show Go p e below _ T0 (mkF m 0 #[.val (.int xa), .val (.long gaps), .second, .val (.int sel), .val (.int xv), .unset, .unset, .unset, .unset, .unset, .unset, .unset, .unset, .unset, .unset, .unset, .unset, .unset, .unset, .unset, .unset, .unset, .unset, .unset, .unset, .unset] [])
  refine Go.of (fun _ kz => XS.lloadN X0.here hx rfl (hb hby at_0) rfl kz) ?_
  show Go p e below _ T0 (mkF m 1 #[.val (.int xa), .val (.long gaps), .second, .val (.int sel), .val (.int xv), .unset, .unset, .unset, .unset, .unset, .unset, .unset, .unset, .unset, .unset, .unset, .unset, .unset, .unset, .unset, .unset, .unset, .unset, .unset, .unset, .unset] [(.long gaps)])
  refine Go.of (fun _ kz => XS.bipush X0.here hx rfl (hb hby at_1) kz) ?_
  show Go p e below _ T0 (mkF m 3 #[.val (.int xa), .val (.long gaps), .second, .val (.int sel), .val (.int xv), .unset, .unset, .unset, .unset, .unset, .unset, .unset, .unset, .unset, .unset, .unset, .unset, .unset, .unset, .unset, .unset, .unset, .unset, .unset, .unset, .unset] [(.int (48 : Int32)), (.long gaps)])
  refine Go.of (fun _ kz => XS.lushr X0.here hx rfl (hb hby at_3) rfl kz) ?_
  show Go p e below _ T0 (mkF m 4 #[.val (.int xa), .val (.long gaps), .second, .val (.int sel), .val (.int xv), .unset, .unset, .unset, .unset, .unset, .unset, .unset, .unset, .unset, .unset, .unset, .unset, .unset, .unset, .unset, .unset, .unset, .unset, .unset, .unset, .unset] [(.long ((gaps.toUInt64 >>> ((48 : Int32) &&& 0x3f).toInt64.toUInt64).toInt64))])
  refine Go.of (X0.ldc2Long hx hown (mvT hZ (hw _ (List.mem_of_getElem? (i := 0) rfl))) (g := (mkF m 4 #[.val (.int xa), .val (.long gaps), .second, .val (.int sel), .val (.int xv), .unset, .unset, .unset, .unset, .unset, .unset, .unset, .unset, .unset, .unset, .unset, .unset, .unset, .unset, .unset, .unset, .unset, .unset, .unset, .unset, .unset] [(.long ((gaps.toUInt64 >>> ((48 : Int32) &&& 0x3f).toInt64.toUInt64).toInt64))])) rfl (hb hby at_4)) ?_
  show Go p e below _ T0 (mkF m 7 #[.val (.int xa), .val (.long gaps), .second, .val (.int sel), .val (.int xv), .unset, .unset, .unset, .unset, .unset, .unset, .unset, .unset, .unset, .unset, .unset, .unset, .unset, .unset, .unset, .unset, .unset, .unset, .unset, .unset, .unset] [(.long (7 : Int64)), (.long ((gaps.toUInt64 >>> ((48 : Int32) &&& 0x3f).toInt64.toUInt64).toInt64))])
  refine Go.of (fun _ kz => XS.land X0.here hx rfl (hb hby at_7) rfl kz) ?_
  show Go p e below _ T0 (mkF m 8 #[.val (.int xa), .val (.long gaps), .second, .val (.int sel), .val (.int xv), .unset, .unset, .unset, .unset, .unset, .unset, .unset, .unset, .unset, .unset, .unset, .unset, .unset, .unset, .unset, .unset, .unset, .unset, .unset, .unset, .unset] [(.long (((gaps.toUInt64 >>> ((48 : Int32) &&& 0x3f).toInt64.toUInt64).toInt64) &&& (7 : Int64)))])
  refine Go.of (fun _ kz => XS.l2i X0.here hx rfl (hb hby at_8) rfl kz) ?_
  show Go p e below _ T0 (mkF m 9 #[.val (.int xa), .val (.long gaps), .second, .val (.int sel), .val (.int xv), .unset, .unset, .unset, .unset, .unset, .unset, .unset, .unset, .unset, .unset, .unset, .unset, .unset, .unset, .unset, .unset, .unset, .unset, .unset, .unset, .unset] [(.int ((((gaps.toUInt64 >>> ((48 : Int32) &&& 0x3f).toInt64.toUInt64).toInt64) &&& (7 : Int64)).toInt32))])
  refine Go.of (fun _ kz => XS.bipush X0.here hx rfl (hb hby at_9) kz) ?_
  show Go p e below _ T0 (mkF m 11 #[.val (.int xa), .val (.long gaps), .second, .val (.int sel), .val (.int xv), .unset, .unset, .unset, .unset, .unset, .unset, .unset, .unset, .unset, .unset, .unset, .unset, .unset, .unset, .unset, .unset, .unset, .unset, .unset, .unset, .unset] [(.int (6 : Int32)), (.int ((((gaps.toUInt64 >>> ((48 : Int32) &&& 0x3f).toInt64.toUInt64).toInt64) &&& (7 : Int64)).toInt32))])
  refine Go.of (fun _ kz => iremM X0 hx rfl (hb hby at_11) rfl (by decide) kz) ?_
  show Go p e below _ T0 (mkF m 12 #[.val (.int xa), .val (.long gaps), .second, .val (.int sel), .val (.int xv), .unset, .unset, .unset, .unset, .unset, .unset, .unset, .unset, .unset, .unset, .unset, .unset, .unset, .unset, .unset, .unset, .unset, .unset, .unset, .unset, .unset] [(.int (((((gaps.toUInt64 >>> ((48 : Int32) &&& 0x3f).toInt64.toUInt64).toInt64) &&& (7 : Int64)).toInt32) % (6 : Int32)))])
  generalize h_sz : (((((gaps.toUInt64 >>> ((48 : Int32) &&& 0x3f).toInt64.toUInt64).toInt64) &&& (7 : Int64)).toInt32) % (6 : Int32)) = sz
  have hsz := own_size h_sz
  refine Go.of (fun _ kz => XS.istore X0.here hx rfl (hb hby at_12) rfl (l' := #[.val (.int xa), .val (.long gaps), .second, .val (.int sel), .val (.int xv), .val (.int sz), .unset, .unset, .unset, .unset, .unset, .unset, .unset, .unset, .unset, .unset, .unset, .unset, .unset, .unset, .unset, .unset, .unset, .unset, .unset, .unset]) rfl kz) ?_
  show Go p e below _ T0 (mkF m 14 #[.val (.int xa), .val (.long gaps), .second, .val (.int sel), .val (.int xv), .val (.int sz), .unset, .unset, .unset, .unset, .unset, .unset, .unset, .unset, .unset, .unset, .unset, .unset, .unset, .unset, .unset, .unset, .unset, .unset, .unset, .unset] [])
  refine Go.of (fun _ kz => XS.iloadN X0.here hx rfl (hb hby at_14) rfl kz) ?_
  show Go p e below _ T0 (mkF m 15 #[.val (.int xa), .val (.long gaps), .second, .val (.int sel), .val (.int xv), .val (.int sz), .unset, .unset, .unset, .unset, .unset, .unset, .unset, .unset, .unset, .unset, .unset, .unset, .unset, .unset, .unset, .unset, .unset, .unset, .unset, .unset] [(.int xa)])
  refine Go.of (fun _ kz => XS.i2l X0.here hx rfl (hb hby at_15) rfl kz) ?_
  show Go p e below _ T0 (mkF m 16 #[.val (.int xa), .val (.long gaps), .second, .val (.int sel), .val (.int xv), .val (.int sz), .unset, .unset, .unset, .unset, .unset, .unset, .unset, .unset, .unset, .unset, .unset, .unset, .unset, .unset, .unset, .unset, .unset, .unset, .unset, .unset] [(.long (xa.toInt64))])
  generalize h_l0 : (xa.toInt64) = l0
  have hg0 := own_l0 h_l0
  refine Go.of (fun _ kz => XS.lstore X0.here hx rfl (hb hby at_16) rfl (l' := #[.val (.int xa), .val (.long gaps), .second, .val (.int sel), .val (.int xv), .val (.int sz), .val (.long l0), .second, .unset, .unset, .unset, .unset, .unset, .unset, .unset, .unset, .unset, .unset, .unset, .unset, .unset, .unset, .unset, .unset, .unset, .unset]) rfl kz) ?_
  show Go p e below _ T0 (mkF m 18 #[.val (.int xa), .val (.long gaps), .second, .val (.int sel), .val (.int xv), .val (.int sz), .val (.long l0), .second, .unset, .unset, .unset, .unset, .unset, .unset, .unset, .unset, .unset, .unset, .unset, .unset, .unset, .unset, .unset, .unset, .unset, .unset] [])
  refine Go.of (fun _ kz => XS.lload X0.here hx rfl (hb hby at_18) rfl kz) ?_
  show Go p e below _ T0 (mkF m 20 #[.val (.int xa), .val (.long gaps), .second, .val (.int sel), .val (.int xv), .val (.int sz), .val (.long l0), .second, .unset, .unset, .unset, .unset, .unset, .unset, .unset, .unset, .unset, .unset, .unset, .unset, .unset, .unset, .unset, .unset, .unset, .unset] [(.long l0)])
  refine Go.of (fun _ kz => XS.lconst X0.here hx rfl (hb hby at_20) kz) ?_
  show Go p e below _ T0 (mkF m 21 #[.val (.int xa), .val (.long gaps), .second, .val (.int sel), .val (.int xv), .val (.int sz), .val (.long l0), .second, .unset, .unset, .unset, .unset, .unset, .unset, .unset, .unset, .unset, .unset, .unset, .unset, .unset, .unset, .unset, .unset, .unset, .unset] [(.long (1 : Int64)), (.long l0)])
  refine Go.of (fun _ kz => XS.ladd X0.here hx rfl (hb hby at_21) rfl kz) ?_
  show Go p e below _ T0 (mkF m 22 #[.val (.int xa), .val (.long gaps), .second, .val (.int sel), .val (.int xv), .val (.int sz), .val (.long l0), .second, .unset, .unset, .unset, .unset, .unset, .unset, .unset, .unset, .unset, .unset, .unset, .unset, .unset, .unset, .unset, .unset, .unset, .unset] [(.long (l0 + (1 : Int64)))])
  refine Go.of (fun _ kz => XS.lloadN X0.here hx rfl (hb hby at_22) rfl kz) ?_
  show Go p e below _ T0 (mkF m 23 #[.val (.int xa), .val (.long gaps), .second, .val (.int sel), .val (.int xv), .val (.int sz), .val (.long l0), .second, .unset, .unset, .unset, .unset, .unset, .unset, .unset, .unset, .unset, .unset, .unset, .unset, .unset, .unset, .unset, .unset, .unset, .unset] [(.long gaps), (.long (l0 + (1 : Int64)))])
  refine Go.of (X0.ldc2Long hx hown (mvT hZ (hw _ (List.mem_of_getElem? (i := 1) rfl))) (g := (mkF m 23 #[.val (.int xa), .val (.long gaps), .second, .val (.int sel), .val (.int xv), .val (.int sz), .val (.long l0), .second, .unset, .unset, .unset, .unset, .unset, .unset, .unset, .unset, .unset, .unset, .unset, .unset, .unset, .unset, .unset, .unset, .unset, .unset] [(.long gaps), (.long (l0 + (1 : Int64)))])) rfl (hb hby at_23)) ?_
  show Go p e below _ T0 (mkF m 26 #[.val (.int xa), .val (.long gaps), .second, .val (.int sel), .val (.int xv), .val (.int sz), .val (.long l0), .second, .unset, .unset, .unset, .unset, .unset, .unset, .unset, .unset, .unset, .unset, .unset, .unset, .unset, .unset, .unset, .unset, .unset, .unset] [(.long (4095 : Int64)), (.long gaps), (.long (l0 + (1 : Int64)))])
  refine Go.of (fun _ kz => XS.land X0.here hx rfl (hb hby at_26) rfl kz) ?_
  show Go p e below _ T0 (mkF m 27 #[.val (.int xa), .val (.long gaps), .second, .val (.int sel), .val (.int xv), .val (.int sz), .val (.long l0), .second, .unset, .unset, .unset, .unset, .unset, .unset, .unset, .unset, .unset, .unset, .unset, .unset, .unset, .unset, .unset, .unset, .unset, .unset] [(.long (gaps &&& (4095 : Int64))), (.long (l0 + (1 : Int64)))])
  refine Go.of (fun _ kz => XS.ladd X0.here hx rfl (hb hby at_27) rfl kz) ?_
  show Go p e below _ T0 (mkF m 28 #[.val (.int xa), .val (.long gaps), .second, .val (.int sel), .val (.int xv), .val (.int sz), .val (.long l0), .second, .unset, .unset, .unset, .unset, .unset, .unset, .unset, .unset, .unset, .unset, .unset, .unset, .unset, .unset, .unset, .unset, .unset, .unset] [(.long ((l0 + (1 : Int64)) + (gaps &&& (4095 : Int64))))])
  generalize h_l1 : ((l0 + (1 : Int64)) + (gaps &&& (4095 : Int64))) = l1
  have hg1 := own_ln (k := 0) h_l1 (by omega) (by omega)
  refine Go.of (fun _ kz => XS.lstore X0.here hx rfl (hb hby at_28) rfl (l' := #[.val (.int xa), .val (.long gaps), .second, .val (.int sel), .val (.int xv), .val (.int sz), .val (.long l0), .second, .val (.long l1), .second, .unset, .unset, .unset, .unset, .unset, .unset, .unset, .unset, .unset, .unset, .unset, .unset, .unset, .unset, .unset, .unset]) rfl kz) ?_
  show Go p e below _ T0 (mkF m 30 #[.val (.int xa), .val (.long gaps), .second, .val (.int sel), .val (.int xv), .val (.int sz), .val (.long l0), .second, .val (.long l1), .second, .unset, .unset, .unset, .unset, .unset, .unset, .unset, .unset, .unset, .unset, .unset, .unset, .unset, .unset, .unset, .unset] [])
  refine Go.of (fun _ kz => XS.lload X0.here hx rfl (hb hby at_30) rfl kz) ?_
  show Go p e below _ T0 (mkF m 32 #[.val (.int xa), .val (.long gaps), .second, .val (.int sel), .val (.int xv), .val (.int sz), .val (.long l0), .second, .val (.long l1), .second, .unset, .unset, .unset, .unset, .unset, .unset, .unset, .unset, .unset, .unset, .unset, .unset, .unset, .unset, .unset, .unset] [(.long l1)])
  refine Go.of (fun _ kz => XS.lconst X0.here hx rfl (hb hby at_32) kz) ?_
  show Go p e below _ T0 (mkF m 33 #[.val (.int xa), .val (.long gaps), .second, .val (.int sel), .val (.int xv), .val (.int sz), .val (.long l0), .second, .val (.long l1), .second, .unset, .unset, .unset, .unset, .unset, .unset, .unset, .unset, .unset, .unset, .unset, .unset, .unset, .unset, .unset, .unset] [(.long (1 : Int64)), (.long l1)])
  refine Go.of (fun _ kz => XS.ladd X0.here hx rfl (hb hby at_33) rfl kz) ?_
  show Go p e below _ T0 (mkF m 34 #[.val (.int xa), .val (.long gaps), .second, .val (.int sel), .val (.int xv), .val (.int sz), .val (.long l0), .second, .val (.long l1), .second, .unset, .unset, .unset, .unset, .unset, .unset, .unset, .unset, .unset, .unset, .unset, .unset, .unset, .unset, .unset, .unset] [(.long (l1 + (1 : Int64)))])
  refine Go.of (fun _ kz => XS.lloadN X0.here hx rfl (hb hby at_34) rfl kz) ?_
  show Go p e below _ T0 (mkF m 35 #[.val (.int xa), .val (.long gaps), .second, .val (.int sel), .val (.int xv), .val (.int sz), .val (.long l0), .second, .val (.long l1), .second, .unset, .unset, .unset, .unset, .unset, .unset, .unset, .unset, .unset, .unset, .unset, .unset, .unset, .unset, .unset, .unset] [(.long gaps), (.long (l1 + (1 : Int64)))])
  refine Go.of (fun _ kz => XS.bipush X0.here hx rfl (hb hby at_35) kz) ?_
  show Go p e below _ T0 (mkF m 37 #[.val (.int xa), .val (.long gaps), .second, .val (.int sel), .val (.int xv), .val (.int sz), .val (.long l0), .second, .val (.long l1), .second, .unset, .unset, .unset, .unset, .unset, .unset, .unset, .unset, .unset, .unset, .unset, .unset, .unset, .unset, .unset, .unset] [(.int (12 : Int32)), (.long gaps), (.long (l1 + (1 : Int64)))])
  refine Go.of (fun _ kz => XS.lushr X0.here hx rfl (hb hby at_37) rfl kz) ?_
  show Go p e below _ T0 (mkF m 38 #[.val (.int xa), .val (.long gaps), .second, .val (.int sel), .val (.int xv), .val (.int sz), .val (.long l0), .second, .val (.long l1), .second, .unset, .unset, .unset, .unset, .unset, .unset, .unset, .unset, .unset, .unset, .unset, .unset, .unset, .unset, .unset, .unset] [(.long ((gaps.toUInt64 >>> ((12 : Int32) &&& 0x3f).toInt64.toUInt64).toInt64)), (.long (l1 + (1 : Int64)))])
  refine Go.of (X0.ldc2Long hx hown (mvT hZ (hw _ (List.mem_of_getElem? (i := 1) rfl))) (g := (mkF m 38 #[.val (.int xa), .val (.long gaps), .second, .val (.int sel), .val (.int xv), .val (.int sz), .val (.long l0), .second, .val (.long l1), .second, .unset, .unset, .unset, .unset, .unset, .unset, .unset, .unset, .unset, .unset, .unset, .unset, .unset, .unset, .unset, .unset] [(.long ((gaps.toUInt64 >>> ((12 : Int32) &&& 0x3f).toInt64.toUInt64).toInt64)), (.long (l1 + (1 : Int64)))])) rfl (hb hby at_38)) ?_
  show Go p e below _ T0 (mkF m 41 #[.val (.int xa), .val (.long gaps), .second, .val (.int sel), .val (.int xv), .val (.int sz), .val (.long l0), .second, .val (.long l1), .second, .unset, .unset, .unset, .unset, .unset, .unset, .unset, .unset, .unset, .unset, .unset, .unset, .unset, .unset, .unset, .unset] [(.long (4095 : Int64)), (.long ((gaps.toUInt64 >>> ((12 : Int32) &&& 0x3f).toInt64.toUInt64).toInt64)), (.long (l1 + (1 : Int64)))])
  refine Go.of (fun _ kz => XS.land X0.here hx rfl (hb hby at_41) rfl kz) ?_
  show Go p e below _ T0 (mkF m 42 #[.val (.int xa), .val (.long gaps), .second, .val (.int sel), .val (.int xv), .val (.int sz), .val (.long l0), .second, .val (.long l1), .second, .unset, .unset, .unset, .unset, .unset, .unset, .unset, .unset, .unset, .unset, .unset, .unset, .unset, .unset, .unset, .unset] [(.long (((gaps.toUInt64 >>> ((12 : Int32) &&& 0x3f).toInt64.toUInt64).toInt64) &&& (4095 : Int64))), (.long (l1 + (1 : Int64)))])
  refine Go.of (fun _ kz => XS.ladd X0.here hx rfl (hb hby at_42) rfl kz) ?_
  show Go p e below _ T0 (mkF m 43 #[.val (.int xa), .val (.long gaps), .second, .val (.int sel), .val (.int xv), .val (.int sz), .val (.long l0), .second, .val (.long l1), .second, .unset, .unset, .unset, .unset, .unset, .unset, .unset, .unset, .unset, .unset, .unset, .unset, .unset, .unset, .unset, .unset] [(.long ((l1 + (1 : Int64)) + (((gaps.toUInt64 >>> ((12 : Int32) &&& 0x3f).toInt64.toUInt64).toInt64) &&& (4095 : Int64))))])
  generalize h_l2 : ((l1 + (1 : Int64)) + (((gaps.toUInt64 >>> ((12 : Int32) &&& 0x3f).toInt64.toUInt64).toInt64) &&& (4095 : Int64))) = l2
  have hg2 := own_ln (k := 1) h_l2 (by omega) (by omega)
  refine Go.of (fun _ kz => XS.lstore X0.here hx rfl (hb hby at_43) rfl (l' := #[.val (.int xa), .val (.long gaps), .second, .val (.int sel), .val (.int xv), .val (.int sz), .val (.long l0), .second, .val (.long l1), .second, .val (.long l2), .second, .unset, .unset, .unset, .unset, .unset, .unset, .unset, .unset, .unset, .unset, .unset, .unset, .unset, .unset]) rfl kz) ?_
  show Go p e below _ T0 (mkF m 45 #[.val (.int xa), .val (.long gaps), .second, .val (.int sel), .val (.int xv), .val (.int sz), .val (.long l0), .second, .val (.long l1), .second, .val (.long l2), .second, .unset, .unset, .unset, .unset, .unset, .unset, .unset, .unset, .unset, .unset, .unset, .unset, .unset, .unset] [])
  refine Go.of (fun _ kz => XS.lload X0.here hx rfl (hb hby at_45) rfl kz) ?_
  show Go p e below _ T0 (mkF m 47 #[.val (.int xa), .val (.long gaps), .second, .val (.int sel), .val (.int xv), .val (.int sz), .val (.long l0), .second, .val (.long l1), .second, .val (.long l2), .second, .unset, .unset, .unset, .unset, .unset, .unset, .unset, .unset, .unset, .unset, .unset, .unset, .unset, .unset] [(.long l2)])
  refine Go.of (fun _ kz => XS.lconst X0.here hx rfl (hb hby at_47) kz) ?_
  show Go p e below _ T0 (mkF m 48 #[.val (.int xa), .val (.long gaps), .second, .val (.int sel), .val (.int xv), .val (.int sz), .val (.long l0), .second, .val (.long l1), .second, .val (.long l2), .second, .unset, .unset, .unset, .unset, .unset, .unset, .unset, .unset, .unset, .unset, .unset, .unset, .unset, .unset] [(.long (1 : Int64)), (.long l2)])
  refine Go.of (fun _ kz => XS.ladd X0.here hx rfl (hb hby at_48) rfl kz) ?_
  show Go p e below _ T0 (mkF m 49 #[.val (.int xa), .val (.long gaps), .second, .val (.int sel), .val (.int xv), .val (.int sz), .val (.long l0), .second, .val (.long l1), .second, .val (.long l2), .second, .unset, .unset, .unset, .unset, .unset, .unset, .unset, .unset, .unset, .unset, .unset, .unset, .unset, .unset] [(.long (l2 + (1 : Int64)))])
  refine Go.of (fun _ kz => XS.lloadN X0.here hx rfl (hb hby at_49) rfl kz) ?_
  show Go p e below _ T0 (mkF m 50 #[.val (.int xa), .val (.long gaps), .second, .val (.int sel), .val (.int xv), .val (.int sz), .val (.long l0), .second, .val (.long l1), .second, .val (.long l2), .second, .unset, .unset, .unset, .unset, .unset, .unset, .unset, .unset, .unset, .unset, .unset, .unset, .unset, .unset] [(.long gaps), (.long (l2 + (1 : Int64)))])
  refine Go.of (fun _ kz => XS.bipush X0.here hx rfl (hb hby at_50) kz) ?_
  show Go p e below _ T0 (mkF m 52 #[.val (.int xa), .val (.long gaps), .second, .val (.int sel), .val (.int xv), .val (.int sz), .val (.long l0), .second, .val (.long l1), .second, .val (.long l2), .second, .unset, .unset, .unset, .unset, .unset, .unset, .unset, .unset, .unset, .unset, .unset, .unset, .unset, .unset] [(.int (24 : Int32)), (.long gaps), (.long (l2 + (1 : Int64)))])
  refine Go.of (fun _ kz => XS.lushr X0.here hx rfl (hb hby at_52) rfl kz) ?_
  show Go p e below _ T0 (mkF m 53 #[.val (.int xa), .val (.long gaps), .second, .val (.int sel), .val (.int xv), .val (.int sz), .val (.long l0), .second, .val (.long l1), .second, .val (.long l2), .second, .unset, .unset, .unset, .unset, .unset, .unset, .unset, .unset, .unset, .unset, .unset, .unset, .unset, .unset] [(.long ((gaps.toUInt64 >>> ((24 : Int32) &&& 0x3f).toInt64.toUInt64).toInt64)), (.long (l2 + (1 : Int64)))])
  refine Go.of (X0.ldc2Long hx hown (mvT hZ (hw _ (List.mem_of_getElem? (i := 1) rfl))) (g := (mkF m 53 #[.val (.int xa), .val (.long gaps), .second, .val (.int sel), .val (.int xv), .val (.int sz), .val (.long l0), .second, .val (.long l1), .second, .val (.long l2), .second, .unset, .unset, .unset, .unset, .unset, .unset, .unset, .unset, .unset, .unset, .unset, .unset, .unset, .unset] [(.long ((gaps.toUInt64 >>> ((24 : Int32) &&& 0x3f).toInt64.toUInt64).toInt64)), (.long (l2 + (1 : Int64)))])) rfl (hb hby at_53)) ?_
  show Go p e below _ T0 (mkF m 56 #[.val (.int xa), .val (.long gaps), .second, .val (.int sel), .val (.int xv), .val (.int sz), .val (.long l0), .second, .val (.long l1), .second, .val (.long l2), .second, .unset, .unset, .unset, .unset, .unset, .unset, .unset, .unset, .unset, .unset, .unset, .unset, .unset, .unset] [(.long (4095 : Int64)), (.long ((gaps.toUInt64 >>> ((24 : Int32) &&& 0x3f).toInt64.toUInt64).toInt64)), (.long (l2 + (1 : Int64)))])
  refine Go.of (fun _ kz => XS.land X0.here hx rfl (hb hby at_56) rfl kz) ?_
  show Go p e below _ T0 (mkF m 57 #[.val (.int xa), .val (.long gaps), .second, .val (.int sel), .val (.int xv), .val (.int sz), .val (.long l0), .second, .val (.long l1), .second, .val (.long l2), .second, .unset, .unset, .unset, .unset, .unset, .unset, .unset, .unset, .unset, .unset, .unset, .unset, .unset, .unset] [(.long (((gaps.toUInt64 >>> ((24 : Int32) &&& 0x3f).toInt64.toUInt64).toInt64) &&& (4095 : Int64))), (.long (l2 + (1 : Int64)))])
  refine Go.of (fun _ kz => XS.ladd X0.here hx rfl (hb hby at_57) rfl kz) ?_
  show Go p e below _ T0 (mkF m 58 #[.val (.int xa), .val (.long gaps), .second, .val (.int sel), .val (.int xv), .val (.int sz), .val (.long l0), .second, .val (.long l1), .second, .val (.long l2), .second, .unset, .unset, .unset, .unset, .unset, .unset, .unset, .unset, .unset, .unset, .unset, .unset, .unset, .unset] [(.long ((l2 + (1 : Int64)) + (((gaps.toUInt64 >>> ((24 : Int32) &&& 0x3f).toInt64.toUInt64).toInt64) &&& (4095 : Int64))))])
  generalize h_l3 : ((l2 + (1 : Int64)) + (((gaps.toUInt64 >>> ((24 : Int32) &&& 0x3f).toInt64.toUInt64).toInt64) &&& (4095 : Int64))) = l3
  have hg3 := own_ln (k := 2) h_l3 (by omega) (by omega)
  refine Go.of (fun _ kz => XS.lstore X0.here hx rfl (hb hby at_58) rfl (l' := #[.val (.int xa), .val (.long gaps), .second, .val (.int sel), .val (.int xv), .val (.int sz), .val (.long l0), .second, .val (.long l1), .second, .val (.long l2), .second, .val (.long l3), .second, .unset, .unset, .unset, .unset, .unset, .unset, .unset, .unset, .unset, .unset, .unset, .unset]) rfl kz) ?_
  show Go p e below _ T0 (mkF m 60 #[.val (.int xa), .val (.long gaps), .second, .val (.int sel), .val (.int xv), .val (.int sz), .val (.long l0), .second, .val (.long l1), .second, .val (.long l2), .second, .val (.long l3), .second, .unset, .unset, .unset, .unset, .unset, .unset, .unset, .unset, .unset, .unset, .unset, .unset] [])
  refine Go.of (fun _ kz => XS.lload X0.here hx rfl (hb hby at_60) rfl kz) ?_
  show Go p e below _ T0 (mkF m 62 #[.val (.int xa), .val (.long gaps), .second, .val (.int sel), .val (.int xv), .val (.int sz), .val (.long l0), .second, .val (.long l1), .second, .val (.long l2), .second, .val (.long l3), .second, .unset, .unset, .unset, .unset, .unset, .unset, .unset, .unset, .unset, .unset, .unset, .unset] [(.long l3)])
  refine Go.of (fun _ kz => XS.lconst X0.here hx rfl (hb hby at_62) kz) ?_
  show Go p e below _ T0 (mkF m 63 #[.val (.int xa), .val (.long gaps), .second, .val (.int sel), .val (.int xv), .val (.int sz), .val (.long l0), .second, .val (.long l1), .second, .val (.long l2), .second, .val (.long l3), .second, .unset, .unset, .unset, .unset, .unset, .unset, .unset, .unset, .unset, .unset, .unset, .unset] [(.long (1 : Int64)), (.long l3)])
  refine Go.of (fun _ kz => XS.ladd X0.here hx rfl (hb hby at_63) rfl kz) ?_
  show Go p e below _ T0 (mkF m 64 #[.val (.int xa), .val (.long gaps), .second, .val (.int sel), .val (.int xv), .val (.int sz), .val (.long l0), .second, .val (.long l1), .second, .val (.long l2), .second, .val (.long l3), .second, .unset, .unset, .unset, .unset, .unset, .unset, .unset, .unset, .unset, .unset, .unset, .unset] [(.long (l3 + (1 : Int64)))])
  refine Go.of (fun _ kz => XS.lloadN X0.here hx rfl (hb hby at_64) rfl kz) ?_
  show Go p e below _ T0 (mkF m 65 #[.val (.int xa), .val (.long gaps), .second, .val (.int sel), .val (.int xv), .val (.int sz), .val (.long l0), .second, .val (.long l1), .second, .val (.long l2), .second, .val (.long l3), .second, .unset, .unset, .unset, .unset, .unset, .unset, .unset, .unset, .unset, .unset, .unset, .unset] [(.long gaps), (.long (l3 + (1 : Int64)))])
  refine Go.of (fun _ kz => XS.bipush X0.here hx rfl (hb hby at_65) kz) ?_
  show Go p e below _ T0 (mkF m 67 #[.val (.int xa), .val (.long gaps), .second, .val (.int sel), .val (.int xv), .val (.int sz), .val (.long l0), .second, .val (.long l1), .second, .val (.long l2), .second, .val (.long l3), .second, .unset, .unset, .unset, .unset, .unset, .unset, .unset, .unset, .unset, .unset, .unset, .unset] [(.int (36 : Int32)), (.long gaps), (.long (l3 + (1 : Int64)))])
  refine Go.of (fun _ kz => XS.lushr X0.here hx rfl (hb hby at_67) rfl kz) ?_
  show Go p e below _ T0 (mkF m 68 #[.val (.int xa), .val (.long gaps), .second, .val (.int sel), .val (.int xv), .val (.int sz), .val (.long l0), .second, .val (.long l1), .second, .val (.long l2), .second, .val (.long l3), .second, .unset, .unset, .unset, .unset, .unset, .unset, .unset, .unset, .unset, .unset, .unset, .unset] [(.long ((gaps.toUInt64 >>> ((36 : Int32) &&& 0x3f).toInt64.toUInt64).toInt64)), (.long (l3 + (1 : Int64)))])
  refine Go.of (X0.ldc2Long hx hown (mvT hZ (hw _ (List.mem_of_getElem? (i := 1) rfl))) (g := (mkF m 68 #[.val (.int xa), .val (.long gaps), .second, .val (.int sel), .val (.int xv), .val (.int sz), .val (.long l0), .second, .val (.long l1), .second, .val (.long l2), .second, .val (.long l3), .second, .unset, .unset, .unset, .unset, .unset, .unset, .unset, .unset, .unset, .unset, .unset, .unset] [(.long ((gaps.toUInt64 >>> ((36 : Int32) &&& 0x3f).toInt64.toUInt64).toInt64)), (.long (l3 + (1 : Int64)))])) rfl (hb hby at_68)) ?_
  show Go p e below _ T0 (mkF m 71 #[.val (.int xa), .val (.long gaps), .second, .val (.int sel), .val (.int xv), .val (.int sz), .val (.long l0), .second, .val (.long l1), .second, .val (.long l2), .second, .val (.long l3), .second, .unset, .unset, .unset, .unset, .unset, .unset, .unset, .unset, .unset, .unset, .unset, .unset] [(.long (4095 : Int64)), (.long ((gaps.toUInt64 >>> ((36 : Int32) &&& 0x3f).toInt64.toUInt64).toInt64)), (.long (l3 + (1 : Int64)))])
  refine Go.of (fun _ kz => XS.land X0.here hx rfl (hb hby at_71) rfl kz) ?_
  show Go p e below _ T0 (mkF m 72 #[.val (.int xa), .val (.long gaps), .second, .val (.int sel), .val (.int xv), .val (.int sz), .val (.long l0), .second, .val (.long l1), .second, .val (.long l2), .second, .val (.long l3), .second, .unset, .unset, .unset, .unset, .unset, .unset, .unset, .unset, .unset, .unset, .unset, .unset] [(.long (((gaps.toUInt64 >>> ((36 : Int32) &&& 0x3f).toInt64.toUInt64).toInt64) &&& (4095 : Int64))), (.long (l3 + (1 : Int64)))])
  refine Go.of (fun _ kz => XS.ladd X0.here hx rfl (hb hby at_72) rfl kz) ?_
  show Go p e below _ T0 (mkF m 73 #[.val (.int xa), .val (.long gaps), .second, .val (.int sel), .val (.int xv), .val (.int sz), .val (.long l0), .second, .val (.long l1), .second, .val (.long l2), .second, .val (.long l3), .second, .unset, .unset, .unset, .unset, .unset, .unset, .unset, .unset, .unset, .unset, .unset, .unset] [(.long ((l3 + (1 : Int64)) + (((gaps.toUInt64 >>> ((36 : Int32) &&& 0x3f).toInt64.toUInt64).toInt64) &&& (4095 : Int64))))])
  generalize h_l4 : ((l3 + (1 : Int64)) + (((gaps.toUInt64 >>> ((36 : Int32) &&& 0x3f).toInt64.toUInt64).toInt64) &&& (4095 : Int64))) = l4
  have hg4 := own_ln (k := 3) h_l4 (by omega) (by omega)
  refine Go.of (fun _ kz => XS.lstore X0.here hx rfl (hb hby at_73) rfl (l' := #[.val (.int xa), .val (.long gaps), .second, .val (.int sel), .val (.int xv), .val (.int sz), .val (.long l0), .second, .val (.long l1), .second, .val (.long l2), .second, .val (.long l3), .second, .val (.long l4), .second, .unset, .unset, .unset, .unset, .unset, .unset, .unset, .unset, .unset, .unset]) rfl kz) ?_
  show Go p e below _ T0 (mkF m 75 #[.val (.int xa), .val (.long gaps), .second, .val (.int sel), .val (.int xv), .val (.int sz), .val (.long l0), .second, .val (.long l1), .second, .val (.long l2), .second, .val (.long l3), .second, .val (.long l4), .second, .unset, .unset, .unset, .unset, .unset, .unset, .unset, .unset, .unset, .unset] [])
  refine Go.of (fun _ kz => XS.iloadN X0.here hx rfl (hb hby at_75) rfl kz) ?_
  show Go p e below _ T0 (mkF m 76 #[.val (.int xa), .val (.long gaps), .second, .val (.int sel), .val (.int xv), .val (.int sz), .val (.long l0), .second, .val (.long l1), .second, .val (.long l2), .second, .val (.long l3), .second, .val (.long l4), .second, .unset, .unset, .unset, .unset, .unset, .unset, .unset, .unset, .unset, .unset] [(.int sel)])
  refine Go.of (fun _ kz => XS.bipush X0.here hx rfl (hb hby at_76) kz) ?_
  show Go p e below _ T0 (mkF m 78 #[.val (.int xa), .val (.long gaps), .second, .val (.int sel), .val (.int xv), .val (.int sz), .val (.long l0), .second, .val (.long l1), .second, .val (.long l2), .second, .val (.long l3), .second, .val (.long l4), .second, .unset, .unset, .unset, .unset, .unset, .unset, .unset, .unset, .unset, .unset] [(.int (8 : Int32)), (.int sel)])
  refine Go.of (fun _ kz => XS.iushr X0.here hx rfl (hb hby at_78) rfl kz) ?_
  show Go p e below _ T0 (mkF m 79 #[.val (.int xa), .val (.long gaps), .second, .val (.int sel), .val (.int xv), .val (.int sz), .val (.long l0), .second, .val (.long l1), .second, .val (.long l2), .second, .val (.long l3), .second, .val (.long l4), .second, .unset, .unset, .unset, .unset, .unset, .unset, .unset, .unset, .unset, .unset] [(.int (XS.ushr sel (8 : Int32)))])
  refine Go.of (fun _ kz => XS.iconst X0.here hx rfl (hb hby at_79) kz) ?_
  show Go p e below _ T0 (mkF m 80 #[.val (.int xa), .val (.long gaps), .second, .val (.int sel), .val (.int xv), .val (.int sz), .val (.long l0), .second, .val (.long l1), .second, .val (.long l2), .second, .val (.long l3), .second, .val (.long l4), .second, .unset, .unset, .unset, .unset, .unset, .unset, .unset, .unset, .unset, .unset] [(.int (1 : Int32)), (.int (XS.ushr sel (8 : Int32)))])
  refine Go.of (fun _ kz => XS.iand X0.here hx rfl (hb hby at_80) rfl kz) ?_
  show Go p e below _ T0 (mkF m 81 #[.val (.int xa), .val (.long gaps), .second, .val (.int sel), .val (.int xv), .val (.int sz), .val (.long l0), .second, .val (.long l1), .second, .val (.long l2), .second, .val (.long l3), .second, .val (.long l4), .second, .unset, .unset, .unset, .unset, .unset, .unset, .unset, .unset, .unset, .unset] [(.int ((XS.ushr sel (8 : Int32)) &&& (1 : Int32)))])
  suffices km81 : ∀ (nz : Int32), nz = (if ((XS.ushr sel (8 : Int32)) &&& (1 : Int32)) = (0 : Int32) then (0 : Int32) else (1 : Int32)) → Go p e below (GoEnd s room_1.cells room_1.slots (fun v _ L => v = some (.int 1) ∧ Fr h0.size L)) T0 (mkF m 89 #[.val (.int xa), .val (.long gaps), .second, .val (.int sel), .val (.int xv), .val (.int sz), .val (.long l0), .second, .val (.long l1), .second, .val (.long l2), .second, .val (.long l3), .second, .val (.long l4), .second, .unset, .unset, .unset, .unset, .unset, .unset, .unset, .unset, .unset, .unset] [(.int nz)]) by
    by_cases hc81 : ((XS.ushr sel (8 : Int32)) &&& (1 : Int32)) = (0 : Int32)
    ·
      refine Go.of (fun _ kz => XS.ifYes X0.here hx rfl (pc0 := 81) (pc' := 88) rfl (hb hby at_81) rfl ((if0 _ _).trans (teq hc81).1) (by decide) (by decide) kz) ?_
      show Go p e below _ T0 (mkF m 88 #[.val (.int xa), .val (.long gaps), .second, .val (.int sel), .val (.int xv), .val (.int sz), .val (.long l0), .second, .val (.long l1), .second, .val (.long l2), .second, .val (.long l3), .second, .val (.long l4), .second, .unset, .unset, .unset, .unset, .unset, .unset, .unset, .unset, .unset, .unset] [])
      refine Go.of (fun _ kz => XS.iconst X0.here hx rfl (hb hby at_88) kz) ?_
      show Go p e below _ T0 (mkF m 89 #[.val (.int xa), .val (.long gaps), .second, .val (.int sel), .val (.int xv), .val (.int sz), .val (.long l0), .second, .val (.long l1), .second, .val (.long l2), .second, .val (.long l3), .second, .val (.long l4), .second, .unset, .unset, .unset, .unset, .unset, .unset, .unset, .unset, .unset, .unset] [(.int (0 : Int32))])
      exact km81 _ (if_pos hc81).symm
    ·
      refine Go.of (fun _ kz => XS.ifNo X0.here hx rfl (hb hby at_81) rfl ((if0 _ _).trans (feq hc81).1) kz) ?_
      show Go p e below _ T0 (mkF m 84 #[.val (.int xa), .val (.long gaps), .second, .val (.int sel), .val (.int xv), .val (.int sz), .val (.long l0), .second, .val (.long l1), .second, .val (.long l2), .second, .val (.long l3), .second, .val (.long l4), .second, .unset, .unset, .unset, .unset, .unset, .unset, .unset, .unset, .unset, .unset] [])
      refine Go.of (fun _ kz => XS.iconst X0.here hx rfl (hb hby at_84) kz) ?_
      show Go p e below _ T0 (mkF m 85 #[.val (.int xa), .val (.long gaps), .second, .val (.int sel), .val (.int xv), .val (.int sz), .val (.long l0), .second, .val (.long l1), .second, .val (.long l2), .second, .val (.long l3), .second, .val (.long l4), .second, .unset, .unset, .unset, .unset, .unset, .unset, .unset, .unset, .unset, .unset] [(.int (1 : Int32))])
      refine Go.of (fun _ kz => XS.goto X0.here hx rfl (pc0 := 85) (pc' := 89) rfl (hb hby at_85) (by decide) (by decide) kz) ?_
      show Go p e below _ T0 (mkF m 89 #[.val (.int xa), .val (.long gaps), .second, .val (.int sel), .val (.int xv), .val (.int sz), .val (.long l0), .second, .val (.long l1), .second, .val (.long l2), .second, .val (.long l3), .second, .val (.long l4), .second, .unset, .unset, .unset, .unset, .unset, .unset, .unset, .unset, .unset, .unset] [(.int (1 : Int32))])
      exact km81 _ (if_neg hc81).symm
  intro nz hu_nz
  show Go p e below _ T0 (mkF m 89 #[.val (.int xa), .val (.long gaps), .second, .val (.int sel), .val (.int xv), .val (.int sz), .val (.long l0), .second, .val (.long l1), .second, .val (.long l2), .second, .val (.long l3), .second, .val (.long l4), .second, .unset, .unset, .unset, .unset, .unset, .unset, .unset, .unset, .unset, .unset] [(.int nz)])
  refine Go.of (fun _ kz => XS.istore X0.here hx rfl (hb hby at_89) rfl (l' := #[.val (.int xa), .val (.long gaps), .second, .val (.int sel), .val (.int xv), .val (.int sz), .val (.long l0), .second, .val (.long l1), .second, .val (.long l2), .second, .val (.long l3), .second, .val (.long l4), .second, .val (.int nz), .unset, .unset, .unset, .unset, .unset, .unset, .unset, .unset, .unset]) rfl kz) ?_
  show Go p e below _ T0 (mkF m 91 #[.val (.int xa), .val (.long gaps), .second, .val (.int sel), .val (.int xv), .val (.int sz), .val (.long l0), .second, .val (.long l1), .second, .val (.long l2), .second, .val (.long l3), .second, .val (.long l4), .second, .val (.int nz), .unset, .unset, .unset, .unset, .unset, .unset, .unset, .unset, .unset] [])
  refine Go.of (fun _ kz => XS.iconst X0.here hx rfl (hb hby at_91) kz) ?_
  show Go p e below _ T0 (mkF m 92 #[.val (.int xa), .val (.long gaps), .second, .val (.int sel), .val (.int xv), .val (.int sz), .val (.long l0), .second, .val (.long l1), .second, .val (.long l2), .second, .val (.long l3), .second, .val (.long l4), .second, .val (.int nz), .unset, .unset, .unset, .unset, .unset, .unset, .unset, .unset, .unset] [(.int (5 : Int32))])
  refine Go.newarr X0 hx hZ (hw _ (List.mem_of_getElem? (i := 2) rfl)) e0 5 (by decide) (by decide) (by decide) (by decide) (by decide) (hb hby at_92) fun T1 h1 b1 k1 g1 X1 e1 E1 V1 => ?_
  have ge_b1 : h0.size ≤ b1 := g1 ▸ (Nat.le_refl _)
  have sz1 : h0.size ≤ h1.size := Nat.le_trans (Nat.le_refl _) E1.1
  have V1 : Arv Z h1 b1 k1 .double (5 : Int32) [(.double 0), (.double 0), (.double 0), (.double 0), (.double 0)] (.double 0) := V1
  show Go p e below _ T1 (mkF m 94 #[.val (.int xa), .val (.long gaps), .second, .val (.int sel), .val (.int xv), .val (.int sz), .val (.long l0), .second, .val (.long l1), .second, .val (.long l2), .second, .val (.long l3), .second, .val (.long l4), .second, .val (.int nz), .unset, .unset, .unset, .unset, .unset, .unset, .unset, .unset, .unset] [(.ref b1)])
  refine Go.of (fun _ kz => XS.astore X1.here hx rfl (hb hby at_94) rfl rfl (l' := #[.val (.int xa), .val (.long gaps), .second, .val (.int sel), .val (.int xv), .val (.int sz), .val (.long l0), .second, .val (.long l1), .second, .val (.long l2), .second, .val (.long l3), .second, .val (.long l4), .second, .val (.int nz), .val (.ref b1), .unset, .unset, .unset, .unset, .unset, .unset, .unset, .unset]) rfl kz) ?_
  show Go p e below _ T1 (mkF m 96 #[.val (.int xa), .val (.long gaps), .second, .val (.int sel), .val (.int xv), .val (.int sz), .val (.long l0), .second, .val (.long l1), .second, .val (.long l2), .second, .val (.long l3), .second, .val (.long l4), .second, .val (.int nz), .val (.ref b1), .unset, .unset, .unset, .unset, .unset, .unset, .unset, .unset] [])
  refine Go.of (fun _ kz => XS.aload X1.here hx rfl (hb hby at_96) rfl rfl kz) ?_
  show Go p e below _ T1 (mkF m 98 #[.val (.int xa), .val (.long gaps), .second, .val (.int sel), .val (.int xv), .val (.int sz), .val (.long l0), .second, .val (.long l1), .second, .val (.long l2), .second, .val (.long l3), .second, .val (.long l4), .second, .val (.int nz), .val (.ref b1), .unset, .unset, .unset, .unset, .unset, .unset, .unset, .unset] [(.ref b1)])
  refine Go.of (fun _ kz => XS.iconst X1.here hx rfl (hb hby at_98) kz) ?_
  show Go p e below _ T1 (mkF m 99 #[.val (.int xa), .val (.long gaps), .second, .val (.int sel), .val (.int xv), .val (.int sz), .val (.long l0), .second, .val (.long l1), .second, .val (.long l2), .second, .val (.long l3), .second, .val (.long l4), .second, .val (.int nz), .val (.ref b1), .unset, .unset, .unset, .unset, .unset, .unset, .unset, .unset] [(.int (0 : Int32)), (.ref b1)])
  refine Go.of (fun _ kz => XS.lload X1.here hx rfl (hb hby at_99) rfl kz) ?_
  show Go p e below _ T1 (mkF m 101 #[.val (.int xa), .val (.long gaps), .second, .val (.int sel), .val (.int xv), .val (.int sz), .val (.long l0), .second, .val (.long l1), .second, .val (.long l2), .second, .val (.long l3), .second, .val (.long l4), .second, .val (.int nz), .val (.ref b1), .unset, .unset, .unset, .unset, .unset, .unset, .unset, .unset] [(.long l0), (.int (0 : Int32)), (.ref b1)])
  refine Go.of (fun _ kz => XS.iload X1.here hx rfl (hb hby at_101) rfl kz) ?_
  show Go p e below _ T1 (mkF m 103 #[.val (.int xa), .val (.long gaps), .second, .val (.int sel), .val (.int xv), .val (.int sz), .val (.long l0), .second, .val (.long l1), .second, .val (.long l2), .second, .val (.long l3), .second, .val (.long l4), .second, .val (.int nz), .val (.ref b1), .unset, .unset, .unset, .unset, .unset, .unset, .unset, .unset] [(.int nz), (.long l0), (.int (0 : Int32)), (.ref b1)])
  refine Go.callSP (W := 2) (y := (⟨"com/example/joulepath/joulepath/core/powerlog/SortedMeansFirstAbovePinLaw", "mean", "(JZ)D"⟩ : MethodName)) (argsL := [(.long l0), (.int nz)]) (rest := [(.int (0 : Int32)), (.ref b1)]) (r := some (.double (own_mean l0 nz))) X1 hx hZ hown (hw _ (List.mem_of_getElem? (i := 3) rfl)) (hw _ (List.mem_of_getElem? (i := 4) rfl)) (hw _ (List.mem_of_getElem? (i := 5) rfl)) (hw _ (List.mem_of_getElem? (i := 6) rfl)) (by decide) (own_rmE l Z a0 hw l0 nz h1) e1 (by rw [hml]; rfl) (lenOf own_dsc0 rfl) (hb hby at_103) rfl (Nat.le_of_eq rfl) (by decide) (by decide) (by decide) (by decide) fun T2 X2 e2 => ?_
  show Go p e below _ T2 (mkF m 106 #[.val (.int xa), .val (.long gaps), .second, .val (.int sel), .val (.int xv), .val (.int sz), .val (.long l0), .second, .val (.long l1), .second, .val (.long l2), .second, .val (.long l3), .second, .val (.long l4), .second, .val (.int nz), .val (.ref b1), .unset, .unset, .unset, .unset, .unset, .unset, .unset, .unset] [(.double (own_mean l0 nz)), (.int (0 : Int32)), (.ref b1)])
  refine Go.dastore X2 hx hZ e2 V1 ⟨by decide, by decide⟩ 0 rfl (Nat.le_of_ble_eq_true rfl) (hb hby at_106) fun T3 h3 X3 e3 W3 V3 => ?_
  have sz3 : h0.size ≤ h3.size := Nat.le_trans sz1 (Keep.of_wr W3).1
  have N3 := Fr.snoc X3 (Fr.nil _) ge_b1
  have V3 : Arv Z h3 b1 k1 .double (5 : Int32) [(.double (own_mean l0 nz)), (.double 0), (.double 0), (.double 0), (.double 0)] (.double 0) := V3
  show Go p e below _ T3 (mkF m 107 #[.val (.int xa), .val (.long gaps), .second, .val (.int sel), .val (.int xv), .val (.int sz), .val (.long l0), .second, .val (.long l1), .second, .val (.long l2), .second, .val (.long l3), .second, .val (.long l4), .second, .val (.int nz), .val (.ref b1), .unset, .unset, .unset, .unset, .unset, .unset, .unset, .unset] [])
  refine Go.of (fun _ kz => XS.aload X3.here hx rfl (hb hby at_107) rfl rfl kz) ?_
  show Go p e below _ T3 (mkF m 109 #[.val (.int xa), .val (.long gaps), .second, .val (.int sel), .val (.int xv), .val (.int sz), .val (.long l0), .second, .val (.long l1), .second, .val (.long l2), .second, .val (.long l3), .second, .val (.long l4), .second, .val (.int nz), .val (.ref b1), .unset, .unset, .unset, .unset, .unset, .unset, .unset, .unset] [(.ref b1)])
  refine Go.of (fun _ kz => XS.iconst X3.here hx rfl (hb hby at_109) kz) ?_
  show Go p e below _ T3 (mkF m 110 #[.val (.int xa), .val (.long gaps), .second, .val (.int sel), .val (.int xv), .val (.int sz), .val (.long l0), .second, .val (.long l1), .second, .val (.long l2), .second, .val (.long l3), .second, .val (.long l4), .second, .val (.int nz), .val (.ref b1), .unset, .unset, .unset, .unset, .unset, .unset, .unset, .unset] [(.int (1 : Int32)), (.ref b1)])
  refine Go.of (fun _ kz => XS.lload X3.here hx rfl (hb hby at_110) rfl kz) ?_
  show Go p e below _ T3 (mkF m 112 #[.val (.int xa), .val (.long gaps), .second, .val (.int sel), .val (.int xv), .val (.int sz), .val (.long l0), .second, .val (.long l1), .second, .val (.long l2), .second, .val (.long l3), .second, .val (.long l4), .second, .val (.int nz), .val (.ref b1), .unset, .unset, .unset, .unset, .unset, .unset, .unset, .unset] [(.long l1), (.int (1 : Int32)), (.ref b1)])
  refine Go.of (fun _ kz => XS.iload X3.here hx rfl (hb hby at_112) rfl kz) ?_
  show Go p e below _ T3 (mkF m 114 #[.val (.int xa), .val (.long gaps), .second, .val (.int sel), .val (.int xv), .val (.int sz), .val (.long l0), .second, .val (.long l1), .second, .val (.long l2), .second, .val (.long l3), .second, .val (.long l4), .second, .val (.int nz), .val (.ref b1), .unset, .unset, .unset, .unset, .unset, .unset, .unset, .unset] [(.int nz), (.long l1), (.int (1 : Int32)), (.ref b1)])
  refine Go.callSP (W := 2) (y := (⟨"com/example/joulepath/joulepath/core/powerlog/SortedMeansFirstAbovePinLaw", "mean", "(JZ)D"⟩ : MethodName)) (argsL := [(.long l1), (.int nz)]) (rest := [(.int (1 : Int32)), (.ref b1)]) (r := some (.double (own_mean l1 nz))) X3 hx hZ hown (hw _ (List.mem_of_getElem? (i := 3) rfl)) (hw _ (List.mem_of_getElem? (i := 4) rfl)) (hw _ (List.mem_of_getElem? (i := 5) rfl)) (hw _ (List.mem_of_getElem? (i := 6) rfl)) (by decide) (own_rmE l Z a0 hw l1 nz h3) e3 (by rw [hml]; rfl) (lenOf own_dsc0 rfl) (hb hby at_114) rfl (Nat.le_of_eq rfl) (by decide) (by decide) (by decide) (by decide) fun T4 X4 e4 => ?_
  show Go p e below _ T4 (mkF m 117 #[.val (.int xa), .val (.long gaps), .second, .val (.int sel), .val (.int xv), .val (.int sz), .val (.long l0), .second, .val (.long l1), .second, .val (.long l2), .second, .val (.long l3), .second, .val (.long l4), .second, .val (.int nz), .val (.ref b1), .unset, .unset, .unset, .unset, .unset, .unset, .unset, .unset] [(.double (own_mean l1 nz)), (.int (1 : Int32)), (.ref b1)])
  refine Go.dastore X4 hx hZ e4 V3 ⟨by decide, by decide⟩ 1 rfl (Nat.le_of_ble_eq_true rfl) (hb hby at_117) fun T5 h5 X5 e5 W5 V5 => ?_
  have sz5 : h0.size ≤ h5.size := Nat.le_trans sz3 (Keep.of_wr W5).1
  have N5 := Fr.snoc X5 N3 ge_b1
  have V5 : Arv Z h5 b1 k1 .double (5 : Int32) [(.double (own_mean l0 nz)), (.double (own_mean l1 nz)), (.double 0), (.double 0), (.double 0)] (.double 0) := V5
  show Go p e below _ T5 (mkF m 118 #[.val (.int xa), .val (.long gaps), .second, .val (.int sel), .val (.int xv), .val (.int sz), .val (.long l0), .second, .val (.long l1), .second, .val (.long l2), .second, .val (.long l3), .second, .val (.long l4), .second, .val (.int nz), .val (.ref b1), .unset, .unset, .unset, .unset, .unset, .unset, .unset, .unset] [])
  refine Go.of (fun _ kz => XS.aload X5.here hx rfl (hb hby at_118) rfl rfl kz) ?_
  show Go p e below _ T5 (mkF m 120 #[.val (.int xa), .val (.long gaps), .second, .val (.int sel), .val (.int xv), .val (.int sz), .val (.long l0), .second, .val (.long l1), .second, .val (.long l2), .second, .val (.long l3), .second, .val (.long l4), .second, .val (.int nz), .val (.ref b1), .unset, .unset, .unset, .unset, .unset, .unset, .unset, .unset] [(.ref b1)])
  refine Go.of (fun _ kz => XS.iconst X5.here hx rfl (hb hby at_120) kz) ?_
  show Go p e below _ T5 (mkF m 121 #[.val (.int xa), .val (.long gaps), .second, .val (.int sel), .val (.int xv), .val (.int sz), .val (.long l0), .second, .val (.long l1), .second, .val (.long l2), .second, .val (.long l3), .second, .val (.long l4), .second, .val (.int nz), .val (.ref b1), .unset, .unset, .unset, .unset, .unset, .unset, .unset, .unset] [(.int (2 : Int32)), (.ref b1)])
  refine Go.of (fun _ kz => XS.lload X5.here hx rfl (hb hby at_121) rfl kz) ?_
  show Go p e below _ T5 (mkF m 123 #[.val (.int xa), .val (.long gaps), .second, .val (.int sel), .val (.int xv), .val (.int sz), .val (.long l0), .second, .val (.long l1), .second, .val (.long l2), .second, .val (.long l3), .second, .val (.long l4), .second, .val (.int nz), .val (.ref b1), .unset, .unset, .unset, .unset, .unset, .unset, .unset, .unset] [(.long l2), (.int (2 : Int32)), (.ref b1)])
  refine Go.of (fun _ kz => XS.iload X5.here hx rfl (hb hby at_123) rfl kz) ?_
  show Go p e below _ T5 (mkF m 125 #[.val (.int xa), .val (.long gaps), .second, .val (.int sel), .val (.int xv), .val (.int sz), .val (.long l0), .second, .val (.long l1), .second, .val (.long l2), .second, .val (.long l3), .second, .val (.long l4), .second, .val (.int nz), .val (.ref b1), .unset, .unset, .unset, .unset, .unset, .unset, .unset, .unset] [(.int nz), (.long l2), (.int (2 : Int32)), (.ref b1)])
  refine Go.callSP (W := 2) (y := (⟨"com/example/joulepath/joulepath/core/powerlog/SortedMeansFirstAbovePinLaw", "mean", "(JZ)D"⟩ : MethodName)) (argsL := [(.long l2), (.int nz)]) (rest := [(.int (2 : Int32)), (.ref b1)]) (r := some (.double (own_mean l2 nz))) X5 hx hZ hown (hw _ (List.mem_of_getElem? (i := 3) rfl)) (hw _ (List.mem_of_getElem? (i := 4) rfl)) (hw _ (List.mem_of_getElem? (i := 5) rfl)) (hw _ (List.mem_of_getElem? (i := 6) rfl)) (by decide) (own_rmE l Z a0 hw l2 nz h5) e5 (by rw [hml]; rfl) (lenOf own_dsc0 rfl) (hb hby at_125) rfl (Nat.le_of_eq rfl) (by decide) (by decide) (by decide) (by decide) fun T6 X6 e6 => ?_
  show Go p e below _ T6 (mkF m 128 #[.val (.int xa), .val (.long gaps), .second, .val (.int sel), .val (.int xv), .val (.int sz), .val (.long l0), .second, .val (.long l1), .second, .val (.long l2), .second, .val (.long l3), .second, .val (.long l4), .second, .val (.int nz), .val (.ref b1), .unset, .unset, .unset, .unset, .unset, .unset, .unset, .unset] [(.double (own_mean l2 nz)), (.int (2 : Int32)), (.ref b1)])
  refine Go.dastore X6 hx hZ e6 V5 ⟨by decide, by decide⟩ 2 rfl (Nat.le_of_ble_eq_true rfl) (hb hby at_128) fun T7 h7 X7 e7 W7 V7 => ?_
  have sz7 : h0.size ≤ h7.size := Nat.le_trans sz5 (Keep.of_wr W7).1
  have N7 := Fr.snoc X7 N5 ge_b1
  have V7 : Arv Z h7 b1 k1 .double (5 : Int32) [(.double (own_mean l0 nz)), (.double (own_mean l1 nz)), (.double (own_mean l2 nz)), (.double 0), (.double 0)] (.double 0) := V7
  show Go p e below _ T7 (mkF m 129 #[.val (.int xa), .val (.long gaps), .second, .val (.int sel), .val (.int xv), .val (.int sz), .val (.long l0), .second, .val (.long l1), .second, .val (.long l2), .second, .val (.long l3), .second, .val (.long l4), .second, .val (.int nz), .val (.ref b1), .unset, .unset, .unset, .unset, .unset, .unset, .unset, .unset] [])
  refine Go.of (fun _ kz => XS.aload X7.here hx rfl (hb hby at_129) rfl rfl kz) ?_
  show Go p e below _ T7 (mkF m 131 #[.val (.int xa), .val (.long gaps), .second, .val (.int sel), .val (.int xv), .val (.int sz), .val (.long l0), .second, .val (.long l1), .second, .val (.long l2), .second, .val (.long l3), .second, .val (.long l4), .second, .val (.int nz), .val (.ref b1), .unset, .unset, .unset, .unset, .unset, .unset, .unset, .unset] [(.ref b1)])
  refine Go.of (fun _ kz => XS.iconst X7.here hx rfl (hb hby at_131) kz) ?_
  show Go p e below _ T7 (mkF m 132 #[.val (.int xa), .val (.long gaps), .second, .val (.int sel), .val (.int xv), .val (.int sz), .val (.long l0), .second, .val (.long l1), .second, .val (.long l2), .second, .val (.long l3), .second, .val (.long l4), .second, .val (.int nz), .val (.ref b1), .unset, .unset, .unset, .unset, .unset, .unset, .unset, .unset] [(.int (3 : Int32)), (.ref b1)])
  refine Go.of (fun _ kz => XS.lload X7.here hx rfl (hb hby at_132) rfl kz) ?_
  show Go p e below _ T7 (mkF m 134 #[.val (.int xa), .val (.long gaps), .second, .val (.int sel), .val (.int xv), .val (.int sz), .val (.long l0), .second, .val (.long l1), .second, .val (.long l2), .second, .val (.long l3), .second, .val (.long l4), .second, .val (.int nz), .val (.ref b1), .unset, .unset, .unset, .unset, .unset, .unset, .unset, .unset] [(.long l3), (.int (3 : Int32)), (.ref b1)])
  refine Go.of (fun _ kz => XS.iload X7.here hx rfl (hb hby at_134) rfl kz) ?_
  show Go p e below _ T7 (mkF m 136 #[.val (.int xa), .val (.long gaps), .second, .val (.int sel), .val (.int xv), .val (.int sz), .val (.long l0), .second, .val (.long l1), .second, .val (.long l2), .second, .val (.long l3), .second, .val (.long l4), .second, .val (.int nz), .val (.ref b1), .unset, .unset, .unset, .unset, .unset, .unset, .unset, .unset] [(.int nz), (.long l3), (.int (3 : Int32)), (.ref b1)])
  refine Go.callSP (W := 2) (y := (⟨"com/example/joulepath/joulepath/core/powerlog/SortedMeansFirstAbovePinLaw", "mean", "(JZ)D"⟩ : MethodName)) (argsL := [(.long l3), (.int nz)]) (rest := [(.int (3 : Int32)), (.ref b1)]) (r := some (.double (own_mean l3 nz))) X7 hx hZ hown (hw _ (List.mem_of_getElem? (i := 3) rfl)) (hw _ (List.mem_of_getElem? (i := 4) rfl)) (hw _ (List.mem_of_getElem? (i := 5) rfl)) (hw _ (List.mem_of_getElem? (i := 6) rfl)) (by decide) (own_rmE l Z a0 hw l3 nz h7) e7 (by rw [hml]; rfl) (lenOf own_dsc0 rfl) (hb hby at_136) rfl (Nat.le_of_eq rfl) (by decide) (by decide) (by decide) (by decide) fun T8 X8 e8 => ?_
  show Go p e below _ T8 (mkF m 139 #[.val (.int xa), .val (.long gaps), .second, .val (.int sel), .val (.int xv), .val (.int sz), .val (.long l0), .second, .val (.long l1), .second, .val (.long l2), .second, .val (.long l3), .second, .val (.long l4), .second, .val (.int nz), .val (.ref b1), .unset, .unset, .unset, .unset, .unset, .unset, .unset, .unset] [(.double (own_mean l3 nz)), (.int (3 : Int32)), (.ref b1)])
  refine Go.dastore X8 hx hZ e8 V7 ⟨by decide, by decide⟩ 3 rfl (Nat.le_of_ble_eq_true rfl) (hb hby at_139) fun T9 h9 X9 e9 W9 V9 => ?_
  have sz9 : h0.size ≤ h9.size := Nat.le_trans sz7 (Keep.of_wr W9).1
  have N9 := Fr.snoc X9 N7 ge_b1
  have V9 : Arv Z h9 b1 k1 .double (5 : Int32) [(.double (own_mean l0 nz)), (.double (own_mean l1 nz)), (.double (own_mean l2 nz)), (.double (own_mean l3 nz)), (.double 0)] (.double 0) := V9
  show Go p e below _ T9 (mkF m 140 #[.val (.int xa), .val (.long gaps), .second, .val (.int sel), .val (.int xv), .val (.int sz), .val (.long l0), .second, .val (.long l1), .second, .val (.long l2), .second, .val (.long l3), .second, .val (.long l4), .second, .val (.int nz), .val (.ref b1), .unset, .unset, .unset, .unset, .unset, .unset, .unset, .unset] [])
  refine Go.of (fun _ kz => XS.aload X9.here hx rfl (hb hby at_140) rfl rfl kz) ?_
  show Go p e below _ T9 (mkF m 142 #[.val (.int xa), .val (.long gaps), .second, .val (.int sel), .val (.int xv), .val (.int sz), .val (.long l0), .second, .val (.long l1), .second, .val (.long l2), .second, .val (.long l3), .second, .val (.long l4), .second, .val (.int nz), .val (.ref b1), .unset, .unset, .unset, .unset, .unset, .unset, .unset, .unset] [(.ref b1)])
  refine Go.of (fun _ kz => XS.iconst X9.here hx rfl (hb hby at_142) kz) ?_
  show Go p e below _ T9 (mkF m 143 #[.val (.int xa), .val (.long gaps), .second, .val (.int sel), .val (.int xv), .val (.int sz), .val (.long l0), .second, .val (.long l1), .second, .val (.long l2), .second, .val (.long l3), .second, .val (.long l4), .second, .val (.int nz), .val (.ref b1), .unset, .unset, .unset, .unset, .unset, .unset, .unset, .unset] [(.int (4 : Int32)), (.ref b1)])
  refine Go.of (fun _ kz => XS.lload X9.here hx rfl (hb hby at_143) rfl kz) ?_
  show Go p e below _ T9 (mkF m 145 #[.val (.int xa), .val (.long gaps), .second, .val (.int sel), .val (.int xv), .val (.int sz), .val (.long l0), .second, .val (.long l1), .second, .val (.long l2), .second, .val (.long l3), .second, .val (.long l4), .second, .val (.int nz), .val (.ref b1), .unset, .unset, .unset, .unset, .unset, .unset, .unset, .unset] [(.long l4), (.int (4 : Int32)), (.ref b1)])
  refine Go.of (fun _ kz => XS.iload X9.here hx rfl (hb hby at_145) rfl kz) ?_
  show Go p e below _ T9 (mkF m 147 #[.val (.int xa), .val (.long gaps), .second, .val (.int sel), .val (.int xv), .val (.int sz), .val (.long l0), .second, .val (.long l1), .second, .val (.long l2), .second, .val (.long l3), .second, .val (.long l4), .second, .val (.int nz), .val (.ref b1), .unset, .unset, .unset, .unset, .unset, .unset, .unset, .unset] [(.int nz), (.long l4), (.int (4 : Int32)), (.ref b1)])
  refine Go.callSP (W := 2) (y := (⟨"com/example/joulepath/joulepath/core/powerlog/SortedMeansFirstAbovePinLaw", "mean", "(JZ)D"⟩ : MethodName)) (argsL := [(.long l4), (.int nz)]) (rest := [(.int (4 : Int32)), (.ref b1)]) (r := some (.double (own_mean l4 nz))) X9 hx hZ hown (hw _ (List.mem_of_getElem? (i := 3) rfl)) (hw _ (List.mem_of_getElem? (i := 4) rfl)) (hw _ (List.mem_of_getElem? (i := 5) rfl)) (hw _ (List.mem_of_getElem? (i := 6) rfl)) (by decide) (own_rmE l Z a0 hw l4 nz h9) e9 (by rw [hml]; rfl) (lenOf own_dsc0 rfl) (hb hby at_147) rfl (Nat.le_of_eq rfl) (by decide) (by decide) (by decide) (by decide) fun T10 X10 e10 => ?_
  show Go p e below _ T10 (mkF m 150 #[.val (.int xa), .val (.long gaps), .second, .val (.int sel), .val (.int xv), .val (.int sz), .val (.long l0), .second, .val (.long l1), .second, .val (.long l2), .second, .val (.long l3), .second, .val (.long l4), .second, .val (.int nz), .val (.ref b1), .unset, .unset, .unset, .unset, .unset, .unset, .unset, .unset] [(.double (own_mean l4 nz)), (.int (4 : Int32)), (.ref b1)])
  refine Go.dastore X10 hx hZ e10 V9 ⟨by decide, by decide⟩ 4 rfl (Nat.le_of_ble_eq_true rfl) (hb hby at_150) fun T11 h11 X11 e11 W11 V11 => ?_
  have sz11 : h0.size ≤ h11.size := Nat.le_trans sz9 (Keep.of_wr W11).1
  have N11 := Fr.snoc X11 N9 ge_b1
  have V11 : Arv Z h11 b1 k1 .double (5 : Int32) [(.double (own_mean l0 nz)), (.double (own_mean l1 nz)), (.double (own_mean l2 nz)), (.double (own_mean l3 nz)), (.double (own_mean l4 nz))] (.double 0) := V11
  show Go p e below _ T11 (mkF m 151 #[.val (.int xa), .val (.long gaps), .second, .val (.int sel), .val (.int xv), .val (.int sz), .val (.long l0), .second, .val (.long l1), .second, .val (.long l2), .second, .val (.long l3), .second, .val (.long l4), .second, .val (.int nz), .val (.ref b1), .unset, .unset, .unset, .unset, .unset, .unset, .unset, .unset] [])
  refine Go.of (fun _ kz => XS.iloadN X11.here hx rfl (hb hby at_151) rfl kz) ?_
  show Go p e below _ T11 (mkF m 152 #[.val (.int xa), .val (.long gaps), .second, .val (.int sel), .val (.int xv), .val (.int sz), .val (.long l0), .second, .val (.long l1), .second, .val (.long l2), .second, .val (.long l3), .second, .val (.long l4), .second, .val (.int nz), .val (.ref b1), .unset, .unset, .unset, .unset, .unset, .unset, .unset, .unset] [(.int sel)])
  refine Go.of (fun _ kz => XS.iconst X11.here hx rfl (hb hby at_152) kz) ?_
  show Go p e below _ T11 (mkF m 153 #[.val (.int xa), .val (.long gaps), .second, .val (.int sel), .val (.int xv), .val (.int sz), .val (.long l0), .second, .val (.long l1), .second, .val (.long l2), .second, .val (.long l3), .second, .val (.long l4), .second, .val (.int nz), .val (.ref b1), .unset, .unset, .unset, .unset, .unset, .unset, .unset, .unset] [(.int (3 : Int32)), (.int sel)])
  refine Go.of (fun _ kz => XS.iand X11.here hx rfl (hb hby at_153) rfl kz) ?_
  show Go p e below _ T11 (mkF m 154 #[.val (.int xa), .val (.long gaps), .second, .val (.int sel), .val (.int xv), .val (.int sz), .val (.long l0), .second, .val (.long l1), .second, .val (.long l2), .second, .val (.long l3), .second, .val (.long l4), .second, .val (.int nz), .val (.ref b1), .unset, .unset, .unset, .unset, .unset, .unset, .unset, .unset] [(.int (sel &&& (3 : Int32)))])
  refine Go.of (fun _ kz => XS.istore X11.here hx rfl (hb hby at_154) rfl (l' := #[.val (.int xa), .val (.long gaps), .second, .val (.int sel), .val (.int xv), .val (.int sz), .val (.long l0), .second, .val (.long l1), .second, .val (.long l2), .second, .val (.long l3), .second, .val (.long l4), .second, .val (.int nz), .val (.ref b1), .val (.int (sel &&& (3 : Int32))), .unset, .unset, .unset, .unset, .unset, .unset, .unset]) rfl kz) ?_
  show Go p e below _ T11 (mkF m 156 #[.val (.int xa), .val (.long gaps), .second, .val (.int sel), .val (.int xv), .val (.int sz), .val (.long l0), .second, .val (.long l1), .second, .val (.long l2), .second, .val (.long l3), .second, .val (.long l4), .second, .val (.int nz), .val (.ref b1), .val (.int (sel &&& (3 : Int32))), .unset, .unset, .unset, .unset, .unset, .unset, .unset] [])
  refine Go.of (fun _ kz => XS.iloadN X11.here hx rfl (hb hby at_156) rfl kz) ?_
  show Go p e below _ T11 (mkF m 157 #[.val (.int xa), .val (.long gaps), .second, .val (.int sel), .val (.int xv), .val (.int sz), .val (.long l0), .second, .val (.long l1), .second, .val (.long l2), .second, .val (.long l3), .second, .val (.long l4), .second, .val (.int nz), .val (.ref b1), .val (.int (sel &&& (3 : Int32))), .unset, .unset, .unset, .unset, .unset, .unset, .unset] [(.int sel)])
  refine Go.of (fun _ kz => XS.iconst X11.here hx rfl (hb hby at_157) kz) ?_
  show Go p e below _ T11 (mkF m 158 #[.val (.int xa), .val (.long gaps), .second, .val (.int sel), .val (.int xv), .val (.int sz), .val (.long l0), .second, .val (.long l1), .second, .val (.long l2), .second, .val (.long l3), .second, .val (.long l4), .second, .val (.int nz), .val (.ref b1), .val (.int (sel &&& (3 : Int32))), .unset, .unset, .unset, .unset, .unset, .unset, .unset] [(.int (2 : Int32)), (.int sel)])
  refine Go.of (fun _ kz => XS.iushr X11.here hx rfl (hb hby at_158) rfl kz) ?_
  show Go p e below _ T11 (mkF m 159 #[.val (.int xa), .val (.long gaps), .second, .val (.int sel), .val (.int xv), .val (.int sz), .val (.long l0), .second, .val (.long l1), .second, .val (.long l2), .second, .val (.long l3), .second, .val (.long l4), .second, .val (.int nz), .val (.ref b1), .val (.int (sel &&& (3 : Int32))), .unset, .unset, .unset, .unset, .unset, .unset, .unset] [(.int (XS.ushr sel (2 : Int32)))])
  refine Go.of (fun _ kz => XS.bipush X11.here hx rfl (hb hby at_159) kz) ?_
  show Go p e below _ T11 (mkF m 161 #[.val (.int xa), .val (.long gaps), .second, .val (.int sel), .val (.int xv), .val (.int sz), .val (.long l0), .second, .val (.long l1), .second, .val (.long l2), .second, .val (.long l3), .second, .val (.long l4), .second, .val (.int nz), .val (.ref b1), .val (.int (sel &&& (3 : Int32))), .unset, .unset, .unset, .unset, .unset, .unset, .unset] [(.int (7 : Int32)), (.int (XS.ushr sel (2 : Int32)))])
  refine Go.of (fun _ kz => XS.iand X11.here hx rfl (hb hby at_161) rfl kz) ?_
  show Go p e below _ T11 (mkF m 162 #[.val (.int xa), .val (.long gaps), .second, .val (.int sel), .val (.int xv), .val (.int sz), .val (.long l0), .second, .val (.long l1), .second, .val (.long l2), .second, .val (.long l3), .second, .val (.long l4), .second, .val (.int nz), .val (.ref b1), .val (.int (sel &&& (3 : Int32))), .unset, .unset, .unset, .unset, .unset, .unset, .unset] [(.int ((XS.ushr sel (2 : Int32)) &&& (7 : Int32)))])
  refine Go.of (fun _ kz => XS.iconst X11.here hx rfl (hb hby at_162) kz) ?_
  show Go p e below _ T11 (mkF m 163 #[.val (.int xa), .val (.long gaps), .second, .val (.int sel), .val (.int xv), .val (.int sz), .val (.long l0), .second, .val (.long l1), .second, .val (.long l2), .second, .val (.long l3), .second, .val (.long l4), .second, .val (.int nz), .val (.ref b1), .val (.int (sel &&& (3 : Int32))), .unset, .unset, .unset, .unset, .unset, .unset, .unset] [(.int (5 : Int32)), (.int ((XS.ushr sel (2 : Int32)) &&& (7 : Int32)))])
  refine Go.of (fun _ kz => iremM X11 hx rfl (hb hby at_163) rfl (by decide) kz) ?_
  show Go p e below _ T11 (mkF m 164 #[.val (.int xa), .val (.long gaps), .second, .val (.int sel), .val (.int xv), .val (.int sz), .val (.long l0), .second, .val (.long l1), .second, .val (.long l2), .second, .val (.long l3), .second, .val (.long l4), .second, .val (.int nz), .val (.ref b1), .val (.int (sel &&& (3 : Int32))), .unset, .unset, .unset, .unset, .unset, .unset, .unset] [(.int (((XS.ushr sel (2 : Int32)) &&& (7 : Int32)) % (5 : Int32)))])
  generalize h_kk : (((XS.ushr sel (2 : Int32)) &&& (7 : Int32)) % (5 : Int32)) = kk
  have hkk := own_k5 h_kk
  refine Go.of (fun _ kz => XS.istore X11.here hx rfl (hb hby at_164) rfl (l' := #[.val (.int xa), .val (.long gaps), .second, .val (.int sel), .val (.int xv), .val (.int sz), .val (.long l0), .second, .val (.long l1), .second, .val (.long l2), .second, .val (.long l3), .second, .val (.long l4), .second, .val (.int nz), .val (.ref b1), .val (.int (sel &&& (3 : Int32))), .val (.int kk), .unset, .unset, .unset, .unset, .unset, .unset]) rfl kz) ?_
  show Go p e below _ T11 (mkF m 166 #[.val (.int xa), .val (.long gaps), .second, .val (.int sel), .val (.int xv), .val (.int sz), .val (.long l0), .second, .val (.long l1), .second, .val (.long l2), .second, .val (.long l3), .second, .val (.long l4), .second, .val (.int nz), .val (.ref b1), .val (.int (sel &&& (3 : Int32))), .val (.int kk), .unset, .unset, .unset, .unset, .unset, .unset] [])
  refine Go.of (fun _ kz => XS.iloadN X11.here hx rfl (hb hby at_166) rfl kz) ?_
  show Go p e below _ T11 (mkF m 167 #[.val (.int xa), .val (.long gaps), .second, .val (.int sel), .val (.int xv), .val (.int sz), .val (.long l0), .second, .val (.long l1), .second, .val (.long l2), .second, .val (.long l3), .second, .val (.long l4), .second, .val (.int nz), .val (.ref b1), .val (.int (sel &&& (3 : Int32))), .val (.int kk), .unset, .unset, .unset, .unset, .unset, .unset] [(.int sel)])
  refine Go.of (fun _ kz => XS.iconst X11.here hx rfl (hb hby at_167) kz) ?_
  show Go p e below _ T11 (mkF m 168 #[.val (.int xa), .val (.long gaps), .second, .val (.int sel), .val (.int xv), .val (.int sz), .val (.long l0), .second, .val (.long l1), .second, .val (.long l2), .second, .val (.long l3), .second, .val (.long l4), .second, .val (.int nz), .val (.ref b1), .val (.int (sel &&& (3 : Int32))), .val (.int kk), .unset, .unset, .unset, .unset, .unset, .unset] [(.int (5 : Int32)), (.int sel)])
  refine Go.of (fun _ kz => XS.iushr X11.here hx rfl (hb hby at_168) rfl kz) ?_
  show Go p e below _ T11 (mkF m 169 #[.val (.int xa), .val (.long gaps), .second, .val (.int sel), .val (.int xv), .val (.int sz), .val (.long l0), .second, .val (.long l1), .second, .val (.long l2), .second, .val (.long l3), .second, .val (.long l4), .second, .val (.int nz), .val (.ref b1), .val (.int (sel &&& (3 : Int32))), .val (.int kk), .unset, .unset, .unset, .unset, .unset, .unset] [(.int (XS.ushr sel (5 : Int32)))])
  refine Go.of (fun _ kz => XS.iconst X11.here hx rfl (hb hby at_169) kz) ?_
  show Go p e below _ T11 (mkF m 170 #[.val (.int xa), .val (.long gaps), .second, .val (.int sel), .val (.int xv), .val (.int sz), .val (.long l0), .second, .val (.long l1), .second, .val (.long l2), .second, .val (.long l3), .second, .val (.long l4), .second, .val (.int nz), .val (.ref b1), .val (.int (sel &&& (3 : Int32))), .val (.int kk), .unset, .unset, .unset, .unset, .unset, .unset] [(.int (3 : Int32)), (.int (XS.ushr sel (5 : Int32)))])
  refine Go.of (fun _ kz => XS.iand X11.here hx rfl (hb hby at_170) rfl kz) ?_
  show Go p e below _ T11 (mkF m 171 #[.val (.int xa), .val (.long gaps), .second, .val (.int sel), .val (.int xv), .val (.int sz), .val (.long l0), .second, .val (.long l1), .second, .val (.long l2), .second, .val (.long l3), .second, .val (.long l4), .second, .val (.int nz), .val (.ref b1), .val (.int (sel &&& (3 : Int32))), .val (.int kk), .unset, .unset, .unset, .unset, .unset, .unset] [(.int ((XS.ushr sel (5 : Int32)) &&& (3 : Int32)))])
  refine Go.of (fun _ kz => XS.iconst X11.here hx rfl (hb hby at_171) kz) ?_
  show Go p e below _ T11 (mkF m 172 #[.val (.int xa), .val (.long gaps), .second, .val (.int sel), .val (.int xv), .val (.int sz), .val (.long l0), .second, .val (.long l1), .second, .val (.long l2), .second, .val (.long l3), .second, .val (.long l4), .second, .val (.int nz), .val (.ref b1), .val (.int (sel &&& (3 : Int32))), .val (.int kk), .unset, .unset, .unset, .unset, .unset, .unset] [(.int (3 : Int32)), (.int ((XS.ushr sel (5 : Int32)) &&& (3 : Int32)))])
  refine Go.of (fun _ kz => iremM X11 hx rfl (hb hby at_172) rfl (by decide) kz) ?_
  show Go p e below _ T11 (mkF m 173 #[.val (.int xa), .val (.long gaps), .second, .val (.int sel), .val (.int xv), .val (.int sz), .val (.long l0), .second, .val (.long l1), .second, .val (.long l2), .second, .val (.long l3), .second, .val (.long l4), .second, .val (.int nz), .val (.ref b1), .val (.int (sel &&& (3 : Int32))), .val (.int kk), .unset, .unset, .unset, .unset, .unset, .unset] [(.int (((XS.ushr sel (5 : Int32)) &&& (3 : Int32)) % (3 : Int32)))])
  refine Go.of (fun _ kz => XS.iconst X11.here hx rfl (hb hby at_173) kz) ?_
  show Go p e below _ T11 (mkF m 174 #[.val (.int xa), .val (.long gaps), .second, .val (.int sel), .val (.int xv), .val (.int sz), .val (.long l0), .second, .val (.long l1), .second, .val (.long l2), .second, .val (.long l3), .second, .val (.long l4), .second, .val (.int nz), .val (.ref b1), .val (.int (sel &&& (3 : Int32))), .val (.int kk), .unset, .unset, .unset, .unset, .unset, .unset] [(.int (1 : Int32)), (.int (((XS.ushr sel (5 : Int32)) &&& (3 : Int32)) % (3 : Int32)))])
  refine Go.of (fun _ kz => XS.isub X11.here hx rfl (hb hby at_174) rfl kz) ?_
  show Go p e below _ T11 (mkF m 175 #[.val (.int xa), .val (.long gaps), .second, .val (.int sel), .val (.int xv), .val (.int sz), .val (.long l0), .second, .val (.long l1), .second, .val (.long l2), .second, .val (.long l3), .second, .val (.long l4), .second, .val (.int nz), .val (.ref b1), .val (.int (sel &&& (3 : Int32))), .val (.int kk), .unset, .unset, .unset, .unset, .unset, .unset] [(.int ((((XS.ushr sel (5 : Int32)) &&& (3 : Int32)) % (3 : Int32)) - (1 : Int32)))])
  generalize h_stp : ((((XS.ushr sel (5 : Int32)) &&& (3 : Int32)) % (3 : Int32)) - (1 : Int32)) = stp
  refine Go.of (fun _ kz => XS.istore X11.here hx rfl (hb hby at_175) rfl (l' := #[.val (.int xa), .val (.long gaps), .second, .val (.int sel), .val (.int xv), .val (.int sz), .val (.long l0), .second, .val (.long l1), .second, .val (.long l2), .second, .val (.long l3), .second, .val (.long l4), .second, .val (.int nz), .val (.ref b1), .val (.int (sel &&& (3 : Int32))), .val (.int kk), .val (.int stp), .unset, .unset, .unset, .unset, .unset]) rfl kz) ?_
  show Go p e below _ T11 (mkF m 177 #[.val (.int xa), .val (.long gaps), .second, .val (.int sel), .val (.int xv), .val (.int sz), .val (.long l0), .second, .val (.long l1), .second, .val (.long l2), .second, .val (.long l3), .second, .val (.long l4), .second, .val (.int nz), .val (.ref b1), .val (.int (sel &&& (3 : Int32))), .val (.int kk), .val (.int stp), .unset, .unset, .unset, .unset, .unset] [])
  suffices k252 : ∀ vv : UInt64, Go p e below (GoEnd s room_1.cells room_1.slots (fun v _ L => v = some (.int 1) ∧ Fr h0.size L)) T11 (mkF m 252 #[.val (.int xa), .val (.long gaps), .second, .val (.int sel), .val (.int xv), .val (.int sz), .val (.long l0), .second, .val (.long l1), .second, .val (.long l2), .second, .val (.long l3), .second, .val (.long l4), .second, .val (.int nz), .val (.ref b1), .val (.int (sel &&& (3 : Int32))), .val (.int kk), .val (.int stp), .val (.double vv), .second, .unset, .unset, .unset] []) by
    show Go p e below _ T11 (mkF m 177 #[.val (.int xa), .val (.long gaps), .second, .val (.int sel), .val (.int xv), .val (.int sz), .val (.long l0), .second, .val (.long l1), .second, .val (.long l2), .second, .val (.long l3), .second, .val (.long l4), .second, .val (.int nz), .val (.ref b1), .val (.int (sel &&& (3 : Int32))), .val (.int kk), .val (.int stp), .unset, .unset, .unset, .unset, .unset] [])
    refine Go.of (fun _ kz => XS.iload X11.here hx rfl (hb hby at_177) rfl kz) ?_
    show Go p e below _ T11 (mkF m 179 #[.val (.int xa), .val (.long gaps), .second, .val (.int sel), .val (.int xv), .val (.int sz), .val (.long l0), .second, .val (.long l1), .second, .val (.long l2), .second, .val (.long l3), .second, .val (.long l4), .second, .val (.int nz), .val (.ref b1), .val (.int (sel &&& (3 : Int32))), .val (.int kk), .val (.int stp), .unset, .unset, .unset, .unset, .unset] [(.int (sel &&& (3 : Int32)))])
    by_cases hc179 : (sel &&& (3 : Int32)) = (0 : Int32)
    ·
      refine Go.of (fun _ kz => XS.ifNo X11.here hx rfl (hb hby at_179) rfl ((if0 _ _).trans (teq hc179).2) kz) ?_
      show Go p e below _ T11 (mkF m 182 #[.val (.int xa), .val (.long gaps), .second, .val (.int sel), .val (.int xv), .val (.int sz), .val (.long l0), .second, .val (.long l1), .second, .val (.long l2), .second, .val (.long l3), .second, .val (.long l4), .second, .val (.int nz), .val (.ref b1), .val (.int (sel &&& (3 : Int32))), .val (.int kk), .val (.int stp), .unset, .unset, .unset, .unset, .unset] [])
      refine Go.of (fun _ kz => XS.iload X11.here hx rfl (hb hby at_182) rfl kz) ?_
      show Go p e below _ T11 (mkF m 184 #[.val (.int xa), .val (.long gaps), .second, .val (.int sel), .val (.int xv), .val (.int sz), .val (.long l0), .second, .val (.long l1), .second, .val (.long l2), .second, .val (.long l3), .second, .val (.long l4), .second, .val (.int nz), .val (.ref b1), .val (.int (sel &&& (3 : Int32))), .val (.int kk), .val (.int stp), .unset, .unset, .unset, .unset, .unset] [(.int xv)])
      refine Go.of (fun _ kz => XS.i2dS X11.here hx rfl (hb hby at_184) rfl rfl kz) ?_
      show Go p e below _ T11 (mkF m 185 #[.val (.int xa), .val (.long gaps), .second, .val (.int sel), .val (.int xv), .val (.int sz), .val (.long l0), .second, .val (.long l1), .second, .val (.long l2), .second, .val (.long l3), .second, .val (.long l4), .second, .val (.int nz), .val (.ref b1), .val (.int (sel &&& (3 : Int32))), .val (.int kk), .val (.int stp), .unset, .unset, .unset, .unset, .unset] [(.double (FP.i2d xv))])
      refine Go.of (fun _ kz => XS.dstore X11.here hx rfl (hb hby at_185) rfl (l' := #[.val (.int xa), .val (.long gaps), .second, .val (.int sel), .val (.int xv), .val (.int sz), .val (.long l0), .second, .val (.long l1), .second, .val (.long l2), .second, .val (.long l3), .second, .val (.long l4), .second, .val (.int nz), .val (.ref b1), .val (.int (sel &&& (3 : Int32))), .val (.int kk), .val (.int stp), .val (.double (FP.i2d xv)), .second, .unset, .unset, .unset]) rfl kz) ?_
      show Go p e below _ T11 (mkF m 187 #[.val (.int xa), .val (.long gaps), .second, .val (.int sel), .val (.int xv), .val (.int sz), .val (.long l0), .second, .val (.long l1), .second, .val (.long l2), .second, .val (.long l3), .second, .val (.long l4), .second, .val (.int nz), .val (.ref b1), .val (.int (sel &&& (3 : Int32))), .val (.int kk), .val (.int stp), .val (.double (FP.i2d xv)), .second, .unset, .unset, .unset] [])
      refine Go.of (fun _ kz => XS.goto X11.here hx rfl (pc0 := 187) (pc' := 252) rfl (hb hby at_187) (by decide) (by decide) kz) ?_
      show Go p e below _ T11 (mkF m 252 #[.val (.int xa), .val (.long gaps), .second, .val (.int sel), .val (.int xv), .val (.int sz), .val (.long l0), .second, .val (.long l1), .second, .val (.long l2), .second, .val (.long l3), .second, .val (.long l4), .second, .val (.int nz), .val (.ref b1), .val (.int (sel &&& (3 : Int32))), .val (.int kk), .val (.int stp), .val (.double (FP.i2d xv)), .second, .unset, .unset, .unset] [])
      exact k252 _
    ·
      refine Go.of (fun _ kz => XS.ifYes X11.here hx rfl (pc0 := 179) (pc' := 190) rfl (hb hby at_179) rfl ((if0 _ _).trans (feq hc179).2) (by decide) (by decide) kz) ?_
      show Go p e below _ T11 (mkF m 190 #[.val (.int xa), .val (.long gaps), .second, .val (.int sel), .val (.int xv), .val (.int sz), .val (.long l0), .second, .val (.long l1), .second, .val (.long l2), .second, .val (.long l3), .second, .val (.long l4), .second, .val (.int nz), .val (.ref b1), .val (.int (sel &&& (3 : Int32))), .val (.int kk), .val (.int stp), .unset, .unset, .unset, .unset, .unset] [])
      refine Go.of (fun _ kz => XS.iload X11.here hx rfl (hb hby at_190) rfl kz) ?_
      show Go p e below _ T11 (mkF m 192 #[.val (.int xa), .val (.long gaps), .second, .val (.int sel), .val (.int xv), .val (.int sz), .val (.long l0), .second, .val (.long l1), .second, .val (.long l2), .second, .val (.long l3), .second, .val (.long l4), .second, .val (.int nz), .val (.ref b1), .val (.int (sel &&& (3 : Int32))), .val (.int kk), .val (.int stp), .unset, .unset, .unset, .unset, .unset] [(.int (sel &&& (3 : Int32)))])
      refine Go.of (fun _ kz => XS.iconst X11.here hx rfl (hb hby at_192) kz) ?_
      show Go p e below _ T11 (mkF m 193 #[.val (.int xa), .val (.long gaps), .second, .val (.int sel), .val (.int xv), .val (.int sz), .val (.long l0), .second, .val (.long l1), .second, .val (.long l2), .second, .val (.long l3), .second, .val (.long l4), .second, .val (.int nz), .val (.ref b1), .val (.int (sel &&& (3 : Int32))), .val (.int kk), .val (.int stp), .unset, .unset, .unset, .unset, .unset] [(.int (1 : Int32)), (.int (sel &&& (3 : Int32)))])
      by_cases hc193 : (sel &&& (3 : Int32)) = (1 : Int32)
      ·
        refine Go.of (fun _ kz => XS.icmpNo X11.here hx rfl (hb hby at_193) rfl (teq hc193).2 kz) ?_
        show Go p e below _ T11 (mkF m 196 #[.val (.int xa), .val (.long gaps), .second, .val (.int sel), .val (.int xv), .val (.int sz), .val (.long l0), .second, .val (.long l1), .second, .val (.long l2), .second, .val (.long l3), .second, .val (.long l4), .second, .val (.int nz), .val (.ref b1), .val (.int (sel &&& (3 : Int32))), .val (.int kk), .val (.int stp), .unset, .unset, .unset, .unset, .unset] [])
        refine Go.of (fun _ kz => XS.aload X11.here hx rfl (hb hby at_196) rfl rfl kz) ?_
        show Go p e below _ T11 (mkF m 198 #[.val (.int xa), .val (.long gaps), .second, .val (.int sel), .val (.int xv), .val (.int sz), .val (.long l0), .second, .val (.long l1), .second, .val (.long l2), .second, .val (.long l3), .second, .val (.long l4), .second, .val (.int nz), .val (.ref b1), .val (.int (sel &&& (3 : Int32))), .val (.int kk), .val (.int stp), .unset, .unset, .unset, .unset, .unset] [(.ref b1)])
        refine Go.of (fun _ kz => XS.iload X11.here hx rfl (hb hby at_198) rfl kz) ?_
        show Go p e below _ T11 (mkF m 200 #[.val (.int xa), .val (.long gaps), .second, .val (.int sel), .val (.int xv), .val (.int sz), .val (.long l0), .second, .val (.long l1), .second, .val (.long l2), .second, .val (.long l3), .second, .val (.long l4), .second, .val (.int nz), .val (.ref b1), .val (.int (sel &&& (3 : Int32))), .val (.int kk), .val (.int stp), .unset, .unset, .unset, .unset, .unset] [(.int kk), (.ref b1)])
        refine Go.daload X11 hx hZ e11 V11 hkk (v := (.double ([own_mean l0 nz, own_mean l1 nz, own_mean l2 nz, own_mean l3 nz, own_mean l4 nz].getD kk.toNatClampNeg 0))) (own_at (ds := [own_mean l0 nz, own_mean l1 nz, own_mean l2 nz, own_mean l3 nz, own_mean l4 nz])) (hb hby at_200) ?_
        show Go p e below _ T11 (mkF m 201 #[.val (.int xa), .val (.long gaps), .second, .val (.int sel), .val (.int xv), .val (.int sz), .val (.long l0), .second, .val (.long l1), .second, .val (.long l2), .second, .val (.long l3), .second, .val (.long l4), .second, .val (.int nz), .val (.ref b1), .val (.int (sel &&& (3 : Int32))), .val (.int kk), .val (.int stp), .unset, .unset, .unset, .unset, .unset] [(.double ([own_mean l0 nz, own_mean l1 nz, own_mean l2 nz, own_mean l3 nz, own_mean l4 nz].getD kk.toNatClampNeg 0))])
        refine Go.of (fun _ kz => XS.iload X11.here hx rfl (hb hby at_201) rfl kz) ?_
        show Go p e below _ T11 (mkF m 203 #[.val (.int xa), .val (.long gaps), .second, .val (.int sel), .val (.int xv), .val (.int sz), .val (.long l0), .second, .val (.long l1), .second, .val (.long l2), .second, .val (.long l3), .second, .val (.long l4), .second, .val (.int nz), .val (.ref b1), .val (.int (sel &&& (3 : Int32))), .val (.int kk), .val (.int stp), .unset, .unset, .unset, .unset, .unset] [(.int stp), (.double ([own_mean l0 nz, own_mean l1 nz, own_mean l2 nz, own_mean l3 nz, own_mean l4 nz].getD kk.toNatClampNeg 0))])
        refine Go.of (fun _ kz => XS.i2dS X11.here hx rfl (hb hby at_203) rfl rfl kz) ?_
        show Go p e below _ T11 (mkF m 204 #[.val (.int xa), .val (.long gaps), .second, .val (.int sel), .val (.int xv), .val (.int sz), .val (.long l0), .second, .val (.long l1), .second, .val (.long l2), .second, .val (.long l3), .second, .val (.long l4), .second, .val (.int nz), .val (.ref b1), .val (.int (sel &&& (3 : Int32))), .val (.int kk), .val (.int stp), .unset, .unset, .unset, .unset, .unset] [(.double (FP.i2d stp)), (.double ([own_mean l0 nz, own_mean l1 nz, own_mean l2 nz, own_mean l3 nz, own_mean l4 nz].getD kk.toNatClampNeg 0))])
        refine Go.of (X11.ldc2DoubleC hx hown (mvT hZ (hw _ (List.mem_of_getElem? (i := 7) rfl))) (g := (mkF m 204 #[.val (.int xa), .val (.long gaps), .second, .val (.int sel), .val (.int xv), .val (.int sz), .val (.long l0), .second, .val (.long l1), .second, .val (.long l2), .second, .val (.long l3), .second, .val (.long l4), .second, .val (.int nz), .val (.ref b1), .val (.int (sel &&& (3 : Int32))), .val (.int kk), .val (.int stp), .unset, .unset, .unset, .unset, .unset] [(.double (FP.i2d stp)), (.double ([own_mean l0 nz, own_mean l1 nz, own_mean l2 nz, own_mean l3 nz, own_mean l4 nz].getD kk.toNatClampNeg 0))])) rfl (hb hby at_204)) ?_
        show Go p e below _ T11 (mkF m 207 #[.val (.int xa), .val (.long gaps), .second, .val (.int sel), .val (.int xv), .val (.int sz), .val (.long l0), .second, .val (.long l1), .second, .val (.long l2), .second, .val (.long l3), .second, .val (.long l4), .second, .val (.int nz), .val (.ref b1), .val (.int (sel &&& (3 : Int32))), .val (.int kk), .val (.int stp), .unset, .unset, .unset, .unset, .unset] [(.double (4602678819172646912 : UInt64)), (.double (FP.i2d stp)), (.double ([own_mean l0 nz, own_mean l1 nz, own_mean l2 nz, own_mean l3 nz, own_mean l4 nz].getD kk.toNatClampNeg 0))])
        refine Go.of (fun _ kz => XS.dmulS X11.here hx rfl (hb hby at_207) rfl (Jvm.Free.Fl.dmul_out (Jvm.Free.Fl.i2d_fin _) own_half) rfl kz) ?_
        show Go p e below _ T11 (mkF m 208 #[.val (.int xa), .val (.long gaps), .second, .val (.int sel), .val (.int xv), .val (.int sz), .val (.long l0), .second, .val (.long l1), .second, .val (.long l2), .second, .val (.long l3), .second, .val (.long l4), .second, .val (.int nz), .val (.ref b1), .val (.int (sel &&& (3 : Int32))), .val (.int kk), .val (.int stp), .unset, .unset, .unset, .unset, .unset] [(.double (FP.dmul (FP.i2d stp) (4602678819172646912 : UInt64))), (.double ([own_mean l0 nz, own_mean l1 nz, own_mean l2 nz, own_mean l3 nz, own_mean l4 nz].getD kk.toNatClampNeg 0))])
        refine Go.of (fun _ kz => XS.daddS X11.here hx rfl (hb hby at_208) rfl (Jvm.Free.Fl.dadd_out' (own_fins (own_mean_fin _ _) (own_mean_fin _ _) (own_mean_fin _ _) (own_mean_fin _ _) (own_mean_fin _ _) _) (Jvm.Free.Fl.dmul_out (Jvm.Free.Fl.i2d_fin _) own_half)) rfl kz) ?_
        show Go p e below _ T11 (mkF m 209 #[.val (.int xa), .val (.long gaps), .second, .val (.int sel), .val (.int xv), .val (.int sz), .val (.long l0), .second, .val (.long l1), .second, .val (.long l2), .second, .val (.long l3), .second, .val (.long l4), .second, .val (.int nz), .val (.ref b1), .val (.int (sel &&& (3 : Int32))), .val (.int kk), .val (.int stp), .unset, .unset, .unset, .unset, .unset] [(.double (FP.dadd ([own_mean l0 nz, own_mean l1 nz, own_mean l2 nz, own_mean l3 nz, own_mean l4 nz].getD kk.toNatClampNeg 0) (FP.dmul (FP.i2d stp) (4602678819172646912 : UInt64))))])
        refine Go.of (fun _ kz => XS.dstore X11.here hx rfl (hb hby at_209) rfl (l' := #[.val (.int xa), .val (.long gaps), .second, .val (.int sel), .val (.int xv), .val (.int sz), .val (.long l0), .second, .val (.long l1), .second, .val (.long l2), .second, .val (.long l3), .second, .val (.long l4), .second, .val (.int nz), .val (.ref b1), .val (.int (sel &&& (3 : Int32))), .val (.int kk), .val (.int stp), .val (.double (FP.dadd ([own_mean l0 nz, own_mean l1 nz, own_mean l2 nz, own_mean l3 nz, own_mean l4 nz].getD kk.toNatClampNeg 0) (FP.dmul (FP.i2d stp) (4602678819172646912 : UInt64)))), .second, .unset, .unset, .unset]) rfl kz) ?_
        show Go p e below _ T11 (mkF m 211 #[.val (.int xa), .val (.long gaps), .second, .val (.int sel), .val (.int xv), .val (.int sz), .val (.long l0), .second, .val (.long l1), .second, .val (.long l2), .second, .val (.long l3), .second, .val (.long l4), .second, .val (.int nz), .val (.ref b1), .val (.int (sel &&& (3 : Int32))), .val (.int kk), .val (.int stp), .val (.double (FP.dadd ([own_mean l0 nz, own_mean l1 nz, own_mean l2 nz, own_mean l3 nz, own_mean l4 nz].getD kk.toNatClampNeg 0) (FP.dmul (FP.i2d stp) (4602678819172646912 : UInt64)))), .second, .unset, .unset, .unset] [])
        refine Go.of (fun _ kz => XS.goto X11.here hx rfl (pc0 := 211) (pc' := 252) rfl (hb hby at_211) (by decide) (by decide) kz) ?_
        show Go p e below _ T11 (mkF m 252 #[.val (.int xa), .val (.long gaps), .second, .val (.int sel), .val (.int xv), .val (.int sz), .val (.long l0), .second, .val (.long l1), .second, .val (.long l2), .second, .val (.long l3), .second, .val (.long l4), .second, .val (.int nz), .val (.ref b1), .val (.int (sel &&& (3 : Int32))), .val (.int kk), .val (.int stp), .val (.double (FP.dadd ([own_mean l0 nz, own_mean l1 nz, own_mean l2 nz, own_mean l3 nz, own_mean l4 nz].getD kk.toNatClampNeg 0) (FP.dmul (FP.i2d stp) (4602678819172646912 : UInt64)))), .second, .unset, .unset, .unset] [])
        exact k252 _
      ·
        refine Go.of (fun _ kz => XS.icmpYes X11.here hx rfl (pc0 := 193) (pc' := 214) rfl (hb hby at_193) rfl (feq hc193).2 (by decide) (by decide) kz) ?_
        show Go p e below _ T11 (mkF m 214 #[.val (.int xa), .val (.long gaps), .second, .val (.int sel), .val (.int xv), .val (.int sz), .val (.long l0), .second, .val (.long l1), .second, .val (.long l2), .second, .val (.long l3), .second, .val (.long l4), .second, .val (.int nz), .val (.ref b1), .val (.int (sel &&& (3 : Int32))), .val (.int kk), .val (.int stp), .unset, .unset, .unset, .unset, .unset] [])
        refine Go.of (fun _ kz => XS.iload X11.here hx rfl (hb hby at_214) rfl kz) ?_
        show Go p e below _ T11 (mkF m 216 #[.val (.int xa), .val (.long gaps), .second, .val (.int sel), .val (.int xv), .val (.int sz), .val (.long l0), .second, .val (.long l1), .second, .val (.long l2), .second, .val (.long l3), .second, .val (.long l4), .second, .val (.int nz), .val (.ref b1), .val (.int (sel &&& (3 : Int32))), .val (.int kk), .val (.int stp), .unset, .unset, .unset, .unset, .unset] [(.int (sel &&& (3 : Int32)))])
        refine Go.of (fun _ kz => XS.iconst X11.here hx rfl (hb hby at_216) kz) ?_
        show Go p e below _ T11 (mkF m 217 #[.val (.int xa), .val (.long gaps), .second, .val (.int sel), .val (.int xv), .val (.int sz), .val (.long l0), .second, .val (.long l1), .second, .val (.long l2), .second, .val (.long l3), .second, .val (.long l4), .second, .val (.int nz), .val (.ref b1), .val (.int (sel &&& (3 : Int32))), .val (.int kk), .val (.int stp), .unset, .unset, .unset, .unset, .unset] [(.int (2 : Int32)), (.int (sel &&& (3 : Int32)))])
        by_cases hc217 : (sel &&& (3 : Int32)) = (2 : Int32)
        ·
          refine Go.of (fun _ kz => XS.icmpNo X11.here hx rfl (hb hby at_217) rfl (teq hc217).2 kz) ?_
          show Go p e below _ T11 (mkF m 220 #[.val (.int xa), .val (.long gaps), .second, .val (.int sel), .val (.int xv), .val (.int sz), .val (.long l0), .second, .val (.long l1), .second, .val (.long l2), .second, .val (.long l3), .second, .val (.long l4), .second, .val (.int nz), .val (.ref b1), .val (.int (sel &&& (3 : Int32))), .val (.int kk), .val (.int stp), .unset, .unset, .unset, .unset, .unset] [])
          refine Go.of (fun _ kz => XS.aload X11.here hx rfl (hb hby at_220) rfl rfl kz) ?_
          show Go p e below _ T11 (mkF m 222 #[.val (.int xa), .val (.long gaps), .second, .val (.int sel), .val (.int xv), .val (.int sz), .val (.long l0), .second, .val (.long l1), .second, .val (.long l2), .second, .val (.long l3), .second, .val (.long l4), .second, .val (.int nz), .val (.ref b1), .val (.int (sel &&& (3 : Int32))), .val (.int kk), .val (.int stp), .unset, .unset, .unset, .unset, .unset] [(.ref b1)])
          refine Go.of (fun _ kz => XS.iload X11.here hx rfl (hb hby at_222) rfl kz) ?_
          show Go p e below _ T11 (mkF m 224 #[.val (.int xa), .val (.long gaps), .second, .val (.int sel), .val (.int xv), .val (.int sz), .val (.long l0), .second, .val (.long l1), .second, .val (.long l2), .second, .val (.long l3), .second, .val (.long l4), .second, .val (.int nz), .val (.ref b1), .val (.int (sel &&& (3 : Int32))), .val (.int kk), .val (.int stp), .unset, .unset, .unset, .unset, .unset] [(.int kk), (.ref b1)])
          refine Go.daload X11 hx hZ e11 V11 hkk (v := (.double ([own_mean l0 nz, own_mean l1 nz, own_mean l2 nz, own_mean l3 nz, own_mean l4 nz].getD kk.toNatClampNeg 0))) (own_at (ds := [own_mean l0 nz, own_mean l1 nz, own_mean l2 nz, own_mean l3 nz, own_mean l4 nz])) (hb hby at_224) ?_
          show Go p e below _ T11 (mkF m 225 #[.val (.int xa), .val (.long gaps), .second, .val (.int sel), .val (.int xv), .val (.int sz), .val (.long l0), .second, .val (.long l1), .second, .val (.long l2), .second, .val (.long l3), .second, .val (.long l4), .second, .val (.int nz), .val (.ref b1), .val (.int (sel &&& (3 : Int32))), .val (.int kk), .val (.int stp), .unset, .unset, .unset, .unset, .unset] [(.double ([own_mean l0 nz, own_mean l1 nz, own_mean l2 nz, own_mean l3 nz, own_mean l4 nz].getD kk.toNatClampNeg 0))])
          refine Go.of (fun _ kz => XS.iload X11.here hx rfl (hb hby at_225) rfl kz) ?_
          show Go p e below _ T11 (mkF m 227 #[.val (.int xa), .val (.long gaps), .second, .val (.int sel), .val (.int xv), .val (.int sz), .val (.long l0), .second, .val (.long l1), .second, .val (.long l2), .second, .val (.long l3), .second, .val (.long l4), .second, .val (.int nz), .val (.ref b1), .val (.int (sel &&& (3 : Int32))), .val (.int kk), .val (.int stp), .unset, .unset, .unset, .unset, .unset] [(.int stp), (.double ([own_mean l0 nz, own_mean l1 nz, own_mean l2 nz, own_mean l3 nz, own_mean l4 nz].getD kk.toNatClampNeg 0))])
          refine Go.of (fun _ kz => XS.i2dS X11.here hx rfl (hb hby at_227) rfl rfl kz) ?_
          show Go p e below _ T11 (mkF m 228 #[.val (.int xa), .val (.long gaps), .second, .val (.int sel), .val (.int xv), .val (.int sz), .val (.long l0), .second, .val (.long l1), .second, .val (.long l2), .second, .val (.long l3), .second, .val (.long l4), .second, .val (.int nz), .val (.ref b1), .val (.int (sel &&& (3 : Int32))), .val (.int kk), .val (.int stp), .unset, .unset, .unset, .unset, .unset] [(.double (FP.i2d stp)), (.double ([own_mean l0 nz, own_mean l1 nz, own_mean l2 nz, own_mean l3 nz, own_mean l4 nz].getD kk.toNatClampNeg 0))])
          refine Go.of (fun _ kz => XS.daddS X11.here hx rfl (hb hby at_228) rfl (Jvm.Free.Fl.dadd_out' (own_fins (own_mean_fin _ _) (own_mean_fin _ _) (own_mean_fin _ _) (own_mean_fin _ _) (own_mean_fin _ _) _) (Jvm.Free.Fl.i2d_fin _).noNaN) rfl kz) ?_
          show Go p e below _ T11 (mkF m 229 #[.val (.int xa), .val (.long gaps), .second, .val (.int sel), .val (.int xv), .val (.int sz), .val (.long l0), .second, .val (.long l1), .second, .val (.long l2), .second, .val (.long l3), .second, .val (.long l4), .second, .val (.int nz), .val (.ref b1), .val (.int (sel &&& (3 : Int32))), .val (.int kk), .val (.int stp), .unset, .unset, .unset, .unset, .unset] [(.double (FP.dadd ([own_mean l0 nz, own_mean l1 nz, own_mean l2 nz, own_mean l3 nz, own_mean l4 nz].getD kk.toNatClampNeg 0) (FP.i2d stp)))])
          refine Go.of (fun _ kz => XS.dstore X11.here hx rfl (hb hby at_229) rfl (l' := #[.val (.int xa), .val (.long gaps), .second, .val (.int sel), .val (.int xv), .val (.int sz), .val (.long l0), .second, .val (.long l1), .second, .val (.long l2), .second, .val (.long l3), .second, .val (.long l4), .second, .val (.int nz), .val (.ref b1), .val (.int (sel &&& (3 : Int32))), .val (.int kk), .val (.int stp), .val (.double (FP.dadd ([own_mean l0 nz, own_mean l1 nz, own_mean l2 nz, own_mean l3 nz, own_mean l4 nz].getD kk.toNatClampNeg 0) (FP.i2d stp))), .second, .unset, .unset, .unset]) rfl kz) ?_
          show Go p e below _ T11 (mkF m 231 #[.val (.int xa), .val (.long gaps), .second, .val (.int sel), .val (.int xv), .val (.int sz), .val (.long l0), .second, .val (.long l1), .second, .val (.long l2), .second, .val (.long l3), .second, .val (.long l4), .second, .val (.int nz), .val (.ref b1), .val (.int (sel &&& (3 : Int32))), .val (.int kk), .val (.int stp), .val (.double (FP.dadd ([own_mean l0 nz, own_mean l1 nz, own_mean l2 nz, own_mean l3 nz, own_mean l4 nz].getD kk.toNatClampNeg 0) (FP.i2d stp))), .second, .unset, .unset, .unset] [])
          refine Go.of (fun _ kz => XS.goto X11.here hx rfl (pc0 := 231) (pc' := 252) rfl (hb hby at_231) (by decide) (by decide) kz) ?_
          show Go p e below _ T11 (mkF m 252 #[.val (.int xa), .val (.long gaps), .second, .val (.int sel), .val (.int xv), .val (.int sz), .val (.long l0), .second, .val (.long l1), .second, .val (.long l2), .second, .val (.long l3), .second, .val (.long l4), .second, .val (.int nz), .val (.ref b1), .val (.int (sel &&& (3 : Int32))), .val (.int kk), .val (.int stp), .val (.double (FP.dadd ([own_mean l0 nz, own_mean l1 nz, own_mean l2 nz, own_mean l3 nz, own_mean l4 nz].getD kk.toNatClampNeg 0) (FP.i2d stp))), .second, .unset, .unset, .unset] [])
          exact k252 _
        ·
          refine Go.of (fun _ kz => XS.icmpYes X11.here hx rfl (pc0 := 217) (pc' := 234) rfl (hb hby at_217) rfl (feq hc217).2 (by decide) (by decide) kz) ?_
          show Go p e below _ T11 (mkF m 234 #[.val (.int xa), .val (.long gaps), .second, .val (.int sel), .val (.int xv), .val (.int sz), .val (.long l0), .second, .val (.long l1), .second, .val (.long l2), .second, .val (.long l3), .second, .val (.long l4), .second, .val (.int nz), .val (.ref b1), .val (.int (sel &&& (3 : Int32))), .val (.int kk), .val (.int stp), .unset, .unset, .unset, .unset, .unset] [])
          refine Go.of (fun _ kz => XS.iloadN X11.here hx rfl (hb hby at_234) rfl kz) ?_
          show Go p e below _ T11 (mkF m 235 #[.val (.int xa), .val (.long gaps), .second, .val (.int sel), .val (.int xv), .val (.int sz), .val (.long l0), .second, .val (.long l1), .second, .val (.long l2), .second, .val (.long l3), .second, .val (.long l4), .second, .val (.int nz), .val (.ref b1), .val (.int (sel &&& (3 : Int32))), .val (.int kk), .val (.int stp), .unset, .unset, .unset, .unset, .unset] [(.int sel)])
          refine Go.of (fun _ kz => XS.bipush X11.here hx rfl (hb hby at_235) kz) ?_
          show Go p e below _ T11 (mkF m 237 #[.val (.int xa), .val (.long gaps), .second, .val (.int sel), .val (.int xv), .val (.int sz), .val (.long l0), .second, .val (.long l1), .second, .val (.long l2), .second, .val (.long l3), .second, .val (.long l4), .second, .val (.int nz), .val (.ref b1), .val (.int (sel &&& (3 : Int32))), .val (.int kk), .val (.int stp), .unset, .unset, .unset, .unset, .unset] [(.int (7 : Int32)), (.int sel)])
          refine Go.of (fun _ kz => XS.iushr X11.here hx rfl (hb hby at_237) rfl kz) ?_
          show Go p e below _ T11 (mkF m 238 #[.val (.int xa), .val (.long gaps), .second, .val (.int sel), .val (.int xv), .val (.int sz), .val (.long l0), .second, .val (.long l1), .second, .val (.long l2), .second, .val (.long l3), .second, .val (.long l4), .second, .val (.int nz), .val (.ref b1), .val (.int (sel &&& (3 : Int32))), .val (.int kk), .val (.int stp), .unset, .unset, .unset, .unset, .unset] [(.int (XS.ushr sel (7 : Int32)))])
          refine Go.of (fun _ kz => XS.iconst X11.here hx rfl (hb hby at_238) kz) ?_
          show Go p e below _ T11 (mkF m 239 #[.val (.int xa), .val (.long gaps), .second, .val (.int sel), .val (.int xv), .val (.int sz), .val (.long l0), .second, .val (.long l1), .second, .val (.long l2), .second, .val (.long l3), .second, .val (.long l4), .second, .val (.int nz), .val (.ref b1), .val (.int (sel &&& (3 : Int32))), .val (.int kk), .val (.int stp), .unset, .unset, .unset, .unset, .unset] [(.int (1 : Int32)), (.int (XS.ushr sel (7 : Int32)))])
          refine Go.of (fun _ kz => XS.iand X11.here hx rfl (hb hby at_239) rfl kz) ?_
          show Go p e below _ T11 (mkF m 240 #[.val (.int xa), .val (.long gaps), .second, .val (.int sel), .val (.int xv), .val (.int sz), .val (.long l0), .second, .val (.long l1), .second, .val (.long l2), .second, .val (.long l3), .second, .val (.long l4), .second, .val (.int nz), .val (.ref b1), .val (.int (sel &&& (3 : Int32))), .val (.int kk), .val (.int stp), .unset, .unset, .unset, .unset, .unset] [(.int ((XS.ushr sel (7 : Int32)) &&& (1 : Int32)))])
          by_cases hc240 : ((XS.ushr sel (7 : Int32)) &&& (1 : Int32)) = (0 : Int32)
          ·
            refine Go.of (fun _ kz => XS.ifYes X11.here hx rfl (pc0 := 240) (pc' := 249) rfl (hb hby at_240) rfl ((if0 _ _).trans (teq hc240).1) (by decide) (by decide) kz) ?_
            show Go p e below _ T11 (mkF m 249 #[.val (.int xa), .val (.long gaps), .second, .val (.int sel), .val (.int xv), .val (.int sz), .val (.long l0), .second, .val (.long l1), .second, .val (.long l2), .second, .val (.long l3), .second, .val (.long l4), .second, .val (.int nz), .val (.ref b1), .val (.int (sel &&& (3 : Int32))), .val (.int kk), .val (.int stp), .unset, .unset, .unset, .unset, .unset] [])
            refine Go.of (fun _ kz => XS.dconst0 X11.here hx rfl (hb hby at_249) (v := 0) (by decide +kernel) kz) ?_
            show Go p e below _ T11 (mkF m 250 #[.val (.int xa), .val (.long gaps), .second, .val (.int sel), .val (.int xv), .val (.int sz), .val (.long l0), .second, .val (.long l1), .second, .val (.long l2), .second, .val (.long l3), .second, .val (.long l4), .second, .val (.int nz), .val (.ref b1), .val (.int (sel &&& (3 : Int32))), .val (.int kk), .val (.int stp), .unset, .unset, .unset, .unset, .unset] [(.double (0 : UInt64))])
            refine Go.of (fun _ kz => XS.dstore X11.here hx rfl (hb hby at_250) rfl (l' := #[.val (.int xa), .val (.long gaps), .second, .val (.int sel), .val (.int xv), .val (.int sz), .val (.long l0), .second, .val (.long l1), .second, .val (.long l2), .second, .val (.long l3), .second, .val (.long l4), .second, .val (.int nz), .val (.ref b1), .val (.int (sel &&& (3 : Int32))), .val (.int kk), .val (.int stp), .val (.double (0 : UInt64)), .second, .unset, .unset, .unset]) rfl kz) ?_
            show Go p e below _ T11 (mkF m 252 #[.val (.int xa), .val (.long gaps), .second, .val (.int sel), .val (.int xv), .val (.int sz), .val (.long l0), .second, .val (.long l1), .second, .val (.long l2), .second, .val (.long l3), .second, .val (.long l4), .second, .val (.int nz), .val (.ref b1), .val (.int (sel &&& (3 : Int32))), .val (.int kk), .val (.int stp), .val (.double (0 : UInt64)), .second, .unset, .unset, .unset] [])
            exact k252 _
          ·
            refine Go.of (fun _ kz => XS.ifNo X11.here hx rfl (hb hby at_240) rfl ((if0 _ _).trans (feq hc240).1) kz) ?_
            show Go p e below _ T11 (mkF m 243 #[.val (.int xa), .val (.long gaps), .second, .val (.int sel), .val (.int xv), .val (.int sz), .val (.long l0), .second, .val (.long l1), .second, .val (.long l2), .second, .val (.long l3), .second, .val (.long l4), .second, .val (.int nz), .val (.ref b1), .val (.int (sel &&& (3 : Int32))), .val (.int kk), .val (.int stp), .unset, .unset, .unset, .unset, .unset] [])
            refine Go.of (X11.ldc2DoubleC hx hown (mvT hZ (hw _ (List.mem_of_getElem? (i := 32) rfl))) (g := (mkF m 243 #[.val (.int xa), .val (.long gaps), .second, .val (.int sel), .val (.int xv), .val (.int sz), .val (.long l0), .second, .val (.long l1), .second, .val (.long l2), .second, .val (.long l3), .second, .val (.long l4), .second, .val (.int nz), .val (.ref b1), .val (.int (sel &&& (3 : Int32))), .val (.int kk), .val (.int stp), .unset, .unset, .unset, .unset, .unset] [])) rfl (hb hby at_243)) ?_
            show Go p e below _ T11 (mkF m 246 #[.val (.int xa), .val (.long gaps), .second, .val (.int sel), .val (.int xv), .val (.int sz), .val (.long l0), .second, .val (.long l1), .second, .val (.long l2), .second, .val (.long l3), .second, .val (.long l4), .second, .val (.int nz), .val (.ref b1), .val (.int (sel &&& (3 : Int32))), .val (.int kk), .val (.int stp), .unset, .unset, .unset, .unset, .unset] [(.double (9223372036854775808 : UInt64))])
            refine Go.of (fun _ kz => XS.goto X11.here hx rfl (pc0 := 246) (pc' := 250) rfl (hb hby at_246) (by decide) (by decide) kz) ?_
            show Go p e below _ T11 (mkF m 250 #[.val (.int xa), .val (.long gaps), .second, .val (.int sel), .val (.int xv), .val (.int sz), .val (.long l0), .second, .val (.long l1), .second, .val (.long l2), .second, .val (.long l3), .second, .val (.long l4), .second, .val (.int nz), .val (.ref b1), .val (.int (sel &&& (3 : Int32))), .val (.int kk), .val (.int stp), .unset, .unset, .unset, .unset, .unset] [(.double (9223372036854775808 : UInt64))])
            refine Go.of (fun _ kz => XS.dstore X11.here hx rfl (hb hby at_250) rfl (l' := #[.val (.int xa), .val (.long gaps), .second, .val (.int sel), .val (.int xv), .val (.int sz), .val (.long l0), .second, .val (.long l1), .second, .val (.long l2), .second, .val (.long l3), .second, .val (.long l4), .second, .val (.int nz), .val (.ref b1), .val (.int (sel &&& (3 : Int32))), .val (.int kk), .val (.int stp), .val (.double (9223372036854775808 : UInt64)), .second, .unset, .unset, .unset]) rfl kz) ?_
            show Go p e below _ T11 (mkF m 252 #[.val (.int xa), .val (.long gaps), .second, .val (.int sel), .val (.int xv), .val (.int sz), .val (.long l0), .second, .val (.long l1), .second, .val (.long l2), .second, .val (.long l3), .second, .val (.long l4), .second, .val (.int nz), .val (.ref b1), .val (.int (sel &&& (3 : Int32))), .val (.int kk), .val (.int stp), .val (.double (9223372036854775808 : UInt64)), .second, .unset, .unset, .unset] [])
            exact k252 _
  intro vv
  show Go p e below _ T11 (mkF m 252 #[.val (.int xa), .val (.long gaps), .second, .val (.int sel), .val (.int xv), .val (.int sz), .val (.long l0), .second, .val (.long l1), .second, .val (.long l2), .second, .val (.long l3), .second, .val (.long l4), .second, .val (.int nz), .val (.ref b1), .val (.int (sel &&& (3 : Int32))), .val (.int kk), .val (.int stp), .val (.double vv), .second, .unset, .unset, .unset] [])
  refine Go.new X11 hx hZ hown (hw _ (List.mem_of_getElem? (i := 8) rfl)) (hw _ (List.mem_of_getElem? (i := 9) rfl)) (hw _ (List.mem_of_getElem? (i := 10) rfl)) e11 (hb hby at_252) (by decide) (by decide) fun T12 h12 b12 g12 X12 e12 E12 A12 D12 => ?_
  have lt_b1_b12 : b1 < b12 := Nat.lt_of_lt_of_le V11.lt (Nat.le_of_eq g12.symm)
  have ge_b12 : h0.size ≤ b12 := g12 ▸ sz11
  have sz12 : h0.size ≤ h12.size := Nat.le_trans sz11 E12.1
  have F12_means : Fld Z h12 b12 "com/example/joulepath/joulepath/core/powerlog/SortedMeans" "means" "[D" .null := D12 (Or.inr (hw _ (List.mem_of_getElem? (i := 19) rfl))) (ty := (.array .double)) (by decide)
  have F12_size : Fld Z h12 b12 "com/example/joulepath/joulepath/core/powerlog/SortedMeans" "size" "I" (.int (0 : Int32)) := D12 (Or.inr (hw _ (List.mem_of_getElem? (i := 21) rfl))) (ty := .int) (by decide)
  have F12_before : Fld Z h12 b12 "com/example/joulepath/joulepath/core/powerlog/SortedMeans" "before" "[J" .null := D12 (Or.inr (hw _ (List.mem_of_getElem? (i := 23) rfl))) (ty := (.array .long)) (by decide)
  show Go p e below _ T12 (mkF m 255 #[.val (.int xa), .val (.long gaps), .second, .val (.int sel), .val (.int xv), .val (.int sz), .val (.long l0), .second, .val (.long l1), .second, .val (.long l2), .second, .val (.long l3), .second, .val (.long l4), .second, .val (.int nz), .val (.ref b1), .val (.int (sel &&& (3 : Int32))), .val (.int kk), .val (.int stp), .val (.double vv), .second, .unset, .unset, .unset] [(.ref b12)])
  refine Go.of (fun _ kz => XS.dup X12.here hx rfl (hb hby at_255) rfl rfl kz) ?_
  show Go p e below _ T12 (mkF m 256 #[.val (.int xa), .val (.long gaps), .second, .val (.int sel), .val (.int xv), .val (.int sz), .val (.long l0), .second, .val (.long l1), .second, .val (.long l2), .second, .val (.long l3), .second, .val (.long l4), .second, .val (.int nz), .val (.ref b1), .val (.int (sel &&& (3 : Int32))), .val (.int kk), .val (.int stp), .val (.double vv), .second, .unset, .unset, .unset] [(.ref b12), (.ref b12)])
  refine Go.of (fun _ kz => XS.aload X12.here hx rfl (hb hby at_256) rfl rfl kz) ?_
  show Go p e below _ T12 (mkF m 258 #[.val (.int xa), .val (.long gaps), .second, .val (.int sel), .val (.int xv), .val (.int sz), .val (.long l0), .second, .val (.long l1), .second, .val (.long l2), .second, .val (.long l3), .second, .val (.long l4), .second, .val (.int nz), .val (.ref b1), .val (.int (sel &&& (3 : Int32))), .val (.int kk), .val (.int stp), .val (.double vv), .second, .unset, .unset, .unset] [(.ref b1), (.ref b12), (.ref b12)])
  refine Go.of (fun _ kz => XS.iload X12.here hx rfl (hb hby at_258) rfl kz) ?_
  show Go p e below _ T12 (mkF m 260 #[.val (.int xa), .val (.long gaps), .second, .val (.int sel), .val (.int xv), .val (.int sz), .val (.long l0), .second, .val (.long l1), .second, .val (.long l2), .second, .val (.long l3), .second, .val (.long l4), .second, .val (.int nz), .val (.ref b1), .val (.int (sel &&& (3 : Int32))), .val (.int kk), .val (.int stp), .val (.double vv), .second, .unset, .unset, .unset] [(.int sz), (.ref b1), (.ref b12), (.ref b12)])
  refine Go.of (fun _ kz => XS.bipush X12.here hx rfl (hb hby at_260) kz) ?_
  show Go p e below _ T12 (mkF m 262 #[.val (.int xa), .val (.long gaps), .second, .val (.int sel), .val (.int xv), .val (.int sz), .val (.long l0), .second, .val (.long l1), .second, .val (.long l2), .second, .val (.long l3), .second, .val (.long l4), .second, .val (.int nz), .val (.ref b1), .val (.int (sel &&& (3 : Int32))), .val (.int kk), .val (.int stp), .val (.double vv), .second, .unset, .unset, .unset] [(.int (6 : Int32)), (.int sz), (.ref b1), (.ref b12), (.ref b12)])
  refine Go.newarr X12 hx hZ (hw _ (List.mem_of_getElem? (i := 11) rfl)) e12 6 (by decide) (by decide) (by decide) (by decide) (by decide) (hb hby at_262) fun T13 h13 b13 k13 g13 X13 e13 E13 V13 => ?_
  have lt_b1_b13 : b1 < b13 := Nat.lt_of_lt_of_le (V11.ext E12).lt (Nat.le_of_eq g13.symm)
  have lt_b12_b13 : b12 < b13 := Nat.lt_of_lt_of_le A12.lt (Nat.le_of_eq g13.symm)
  have ge_b13 : h0.size ≤ b13 := g13 ▸ sz12
  have sz13 : h0.size ≤ h13.size := Nat.le_trans sz12 E13.1
  have V13 : Arv Z h13 b13 k13 .long (6 : Int32) [(.long (0 : Int64)), (.long (0 : Int64)), (.long (0 : Int64)), (.long (0 : Int64)), (.long (0 : Int64)), (.long (0 : Int64))] (.long (0 : Int64)) := V13
  show Go p e below _ T13 (mkF m 264 #[.val (.int xa), .val (.long gaps), .second, .val (.int sel), .val (.int xv), .val (.int sz), .val (.long l0), .second, .val (.long l1), .second, .val (.long l2), .second, .val (.long l3), .second, .val (.long l4), .second, .val (.int nz), .val (.ref b1), .val (.int (sel &&& (3 : Int32))), .val (.int kk), .val (.int stp), .val (.double vv), .second, .unset, .unset, .unset] [(.ref b13), (.int sz), (.ref b1), (.ref b12), (.ref b12)])
  refine Go.callI (W := 1) (y := (⟨"com/example/joulepath/joulepath/core/powerlog/SortedMeans", "<init>", "([DI[J)V"⟩ : MethodName)) (a := b12) (argsL := [(.ref b1), (.int sz), (.ref b13)]) (rest := [(.ref b12)]) X13 hx hZ rfl hown (hw _ (List.mem_of_getElem? (i := 12) rfl)) (hw _ (List.mem_of_getElem? (i := 13) rfl)) (hw _ (List.mem_of_getElem? (i := 10) rfl)) (hw _ (List.mem_of_getElem? (i := 14) rfl)) (by decide) (own_rmI l Z a0 hw b12 b1 sz b13 h0.size h13 sz13 ge_b12 (A12.ext E13) (F12_means.ext E13) (F12_size.ext E13) (F12_before.ext E13)) e13 (by rw [hml]; rfl) (lenOf own_dsc1 rfl) (hb hby at_264) rfl (Nat.le_of_eq rfl) (by decide) (by decide) (by decide) (by decide) fun _ T14 L14 X14 q14 => ?_
  obtain ⟨rfl, N14q, K14, A14, FM14, FS14⟩ := q14
  have N14 := Fr.app N11 N14q
  have sz14 : h0.size ≤ T14.heap.size := Nat.le_trans sz13 K14.1
  show Go p e below _ T14 (mkF m 267 #[.val (.int xa), .val (.long gaps), .second, .val (.int sel), .val (.int xv), .val (.int sz), .val (.long l0), .second, .val (.long l1), .second, .val (.long l2), .second, .val (.long l3), .second, .val (.long l4), .second, .val (.int nz), .val (.ref b1), .val (.int (sel &&& (3 : Int32))), .val (.int kk), .val (.int stp), .val (.double vv), .second, .unset, .unset, .unset] [(.ref b12)])
  refine Go.of (fun _ kz => XS.astore X14.here hx rfl (hb hby at_267) rfl rfl (l' := #[.val (.int xa), .val (.long gaps), .second, .val (.int sel), .val (.int xv), .val (.int sz), .val (.long l0), .second, .val (.long l1), .second, .val (.long l2), .second, .val (.long l3), .second, .val (.long l4), .second, .val (.int nz), .val (.ref b1), .val (.int (sel &&& (3 : Int32))), .val (.int kk), .val (.int stp), .val (.double vv), .second, .val (.ref b12), .unset, .unset]) rfl kz) ?_
  show Go p e below _ T14 (mkF m 269 #[.val (.int xa), .val (.long gaps), .second, .val (.int sel), .val (.int xv), .val (.int sz), .val (.long l0), .second, .val (.long l1), .second, .val (.long l2), .second, .val (.long l3), .second, .val (.long l4), .second, .val (.int nz), .val (.ref b1), .val (.int (sel &&& (3 : Int32))), .val (.int kk), .val (.int stp), .val (.double vv), .second, .val (.ref b12), .unset, .unset] [])
  refine Go.of (fun _ kz => XS.aload X14.here hx rfl (hb hby at_269) rfl rfl kz) ?_
  show Go p e below _ T14 (mkF m 271 #[.val (.int xa), .val (.long gaps), .second, .val (.int sel), .val (.int xv), .val (.int sz), .val (.long l0), .second, .val (.long l1), .second, .val (.long l2), .second, .val (.long l3), .second, .val (.long l4), .second, .val (.int nz), .val (.ref b1), .val (.int (sel &&& (3 : Int32))), .val (.int kk), .val (.int stp), .val (.double vv), .second, .val (.ref b12), .unset, .unset] [(.ref b12)])
  refine Go.of (fun _ kz => XS.dload X14.here hx rfl (hb hby at_271) rfl kz) ?_
  show Go p e below _ T14 (mkF m 273 #[.val (.int xa), .val (.long gaps), .second, .val (.int sel), .val (.int xv), .val (.int sz), .val (.long l0), .second, .val (.long l1), .second, .val (.long l2), .second, .val (.long l3), .second, .val (.long l4), .second, .val (.int nz), .val (.ref b1), .val (.int (sel &&& (3 : Int32))), .val (.int kk), .val (.int stp), .val (.double vv), .second, .val (.ref b12), .unset, .unset] [(.double vv), (.ref b12)])
  refine Go.callVP (W := 0) (y := (⟨"com/example/joulepath/joulepath/core/powerlog/SortedMeans", "firstAbove", "(D)I"⟩ : MethodName)) (z := (⟨"com/example/joulepath/joulepath/core/powerlog/SortedMeans", "firstAbove", "(D)I"⟩ : MethodName)) (a := b12) (argsL := [(.double vv)]) (rest := []) (r := some (.int (own_bs 6 (own_P [own_mean l0 nz, own_mean l1 nz, own_mean l2 nz, own_mean l3 nz, own_mean l4 nz] vv) 0 sz))) X14 hx hZ hown (hw _ (List.mem_of_getElem? (i := 24) rfl)) (hw _ (List.mem_of_getElem? (i := 25) rfl)) (notFace_of_selects (args := #[]) (mvT hZ (hw _ (List.mem_of_getElem? (i := 27) rfl)))) (hw _ (List.mem_of_getElem? (i := 27) rfl)) (hw _ (List.mem_of_getElem? (i := 26) rfl)) (hw _ (List.mem_of_getElem? (i := 10) rfl)) (hw _ (List.mem_of_getElem? (i := 28) rfl)) (by decide) (own_rmF l Z a0 hw b12 b1 sz vv k1 [own_mean l0 nz, own_mean l1 nz, own_mean l2 nz, own_mean l3 nz, own_mean l4 nz] T14.heap (((V11.ext E12).ext E13).keep K14 (ninS (Nat.ne_of_lt lt_b1_b12) nin0)) FM14 FS14 hsz) rfl A14 (by rw [hml]; rfl) (lenOf own_dsc2 rfl) (hb hby at_273) rfl (Nat.le_of_eq rfl) (by decide) (by decide) (by decide) (by decide) fun T15 X15 e15 => ?_
  show Go p e below _ T15 (mkF m 276 #[.val (.int xa), .val (.long gaps), .second, .val (.int sel), .val (.int xv), .val (.int sz), .val (.long l0), .second, .val (.long l1), .second, .val (.long l2), .second, .val (.long l3), .second, .val (.long l4), .second, .val (.int nz), .val (.ref b1), .val (.int (sel &&& (3 : Int32))), .val (.int kk), .val (.int stp), .val (.double vv), .second, .val (.ref b12), .unset, .unset] [(.int (own_bs 6 (own_P [own_mean l0 nz, own_mean l1 nz, own_mean l2 nz, own_mean l3 nz, own_mean l4 nz] vv) 0 sz))])
  refine Go.of (fun _ kz => XS.istore X15.here hx rfl (hb hby at_276) rfl (l' := #[.val (.int xa), .val (.long gaps), .second, .val (.int sel), .val (.int xv), .val (.int sz), .val (.long l0), .second, .val (.long l1), .second, .val (.long l2), .second, .val (.long l3), .second, .val (.long l4), .second, .val (.int nz), .val (.ref b1), .val (.int (sel &&& (3 : Int32))), .val (.int kk), .val (.int stp), .val (.double vv), .second, .val (.ref b12), .val (.int (own_bs 6 (own_P [own_mean l0 nz, own_mean l1 nz, own_mean l2 nz, own_mean l3 nz, own_mean l4 nz] vv) 0 sz)), .unset]) rfl kz) ?_
  show Go p e below _ T15 (mkF m 278 #[.val (.int xa), .val (.long gaps), .second, .val (.int sel), .val (.int xv), .val (.int sz), .val (.long l0), .second, .val (.long l1), .second, .val (.long l2), .second, .val (.long l3), .second, .val (.long l4), .second, .val (.int nz), .val (.ref b1), .val (.int (sel &&& (3 : Int32))), .val (.int kk), .val (.int stp), .val (.double vv), .second, .val (.ref b12), .val (.int (own_bs 6 (own_P [own_mean l0 nz, own_mean l1 nz, own_mean l2 nz, own_mean l3 nz, own_mean l4 nz] vv) 0 sz)), .unset] [])
  refine Go.of (fun _ kz => XS.aload X15.here hx rfl (hb hby at_278) rfl rfl kz) ?_
  show Go p e below _ T15 (mkF m 280 #[.val (.int xa), .val (.long gaps), .second, .val (.int sel), .val (.int xv), .val (.int sz), .val (.long l0), .second, .val (.long l1), .second, .val (.long l2), .second, .val (.long l3), .second, .val (.long l4), .second, .val (.int nz), .val (.ref b1), .val (.int (sel &&& (3 : Int32))), .val (.int kk), .val (.int stp), .val (.double vv), .second, .val (.ref b12), .val (.int (own_bs 6 (own_P [own_mean l0 nz, own_mean l1 nz, own_mean l2 nz, own_mean l3 nz, own_mean l4 nz] vv) 0 sz)), .unset] [(.ref b1)])
  refine Go.of (fun _ kz => XS.iconst X15.here hx rfl (hb hby at_280) kz) ?_
  show Go p e below _ T15 (mkF m 281 #[.val (.int xa), .val (.long gaps), .second, .val (.int sel), .val (.int xv), .val (.int sz), .val (.long l0), .second, .val (.long l1), .second, .val (.long l2), .second, .val (.long l3), .second, .val (.long l4), .second, .val (.int nz), .val (.ref b1), .val (.int (sel &&& (3 : Int32))), .val (.int kk), .val (.int stp), .val (.double vv), .second, .val (.ref b12), .val (.int (own_bs 6 (own_P [own_mean l0 nz, own_mean l1 nz, own_mean l2 nz, own_mean l3 nz, own_mean l4 nz] vv) 0 sz)), .unset] [(.int (0 : Int32)), (.ref b1)])
  refine Go.of (fun _ kz => XS.iload X15.here hx rfl (hb hby at_281) rfl kz) ?_
  show Go p e below _ T15 (mkF m 283 #[.val (.int xa), .val (.long gaps), .second, .val (.int sel), .val (.int xv), .val (.int sz), .val (.long l0), .second, .val (.long l1), .second, .val (.long l2), .second, .val (.long l3), .second, .val (.long l4), .second, .val (.int nz), .val (.ref b1), .val (.int (sel &&& (3 : Int32))), .val (.int kk), .val (.int stp), .val (.double vv), .second, .val (.ref b12), .val (.int (own_bs 6 (own_P [own_mean l0 nz, own_mean l1 nz, own_mean l2 nz, own_mean l3 nz, own_mean l4 nz] vv) 0 sz)), .unset] [(.int sz), (.int (0 : Int32)), (.ref b1)])
  refine Go.of (fun _ kz => XS.dload X15.here hx rfl (hb hby at_283) rfl kz) ?_
  show Go p e below _ T15 (mkF m 285 #[.val (.int xa), .val (.long gaps), .second, .val (.int sel), .val (.int xv), .val (.int sz), .val (.long l0), .second, .val (.long l1), .second, .val (.long l2), .second, .val (.long l3), .second, .val (.long l4), .second, .val (.int nz), .val (.ref b1), .val (.int (sel &&& (3 : Int32))), .val (.int kk), .val (.int stp), .val (.double vv), .second, .val (.ref b12), .val (.int (own_bs 6 (own_P [own_mean l0 nz, own_mean l1 nz, own_mean l2 nz, own_mean l3 nz, own_mean l4 nz] vv) 0 sz)), .unset] [(.double vv), (.int sz), (.int (0 : Int32)), (.ref b1)])
  refine Go.callSP (W := 0) (y := (⟨"com/example/joulepath/joulepath/core/powerlog/SortedMeansFirstAbovePinLaw", "notAbove", "([DIID)I"⟩ : MethodName)) (argsL := [(.ref b1), (.int (0 : Int32)), (.int sz), (.double vv)]) (rest := []) (r := some (.int (own_na (own_P [own_mean l0 nz, own_mean l1 nz, own_mean l2 nz, own_mean l3 nz, own_mean l4 nz] vv) sz (0 : Int32)))) X15 hx hZ hown (hw _ (List.mem_of_getElem? (i := 29) rfl)) (hw _ (List.mem_of_getElem? (i := 30) rfl)) (hw _ (List.mem_of_getElem? (i := 5) rfl)) (hw _ (List.mem_of_getElem? (i := 31) rfl)) (by decide) (own_rmN l Z a0 hw b1 (0 : Int32) sz vv k1 [own_mean l0 nz, own_mean l1 nz, own_mean l2 nz, own_mean l3 nz, own_mean l4 nz] T14.heap (((V11.ext E12).ext E13).keep K14 (ninS (Nat.ne_of_lt lt_b1_b12) nin0)) (by decide)) e15 (by rw [hml]; rfl) (lenOf own_dsc3 rfl) (hb hby at_285) rfl (Nat.le_of_eq rfl) (by decide) (by decide) (by decide) (by decide) fun T16 X16 e16 => ?_
  show Go p e below _ T16 (mkF m 288 #[.val (.int xa), .val (.long gaps), .second, .val (.int sel), .val (.int xv), .val (.int sz), .val (.long l0), .second, .val (.long l1), .second, .val (.long l2), .second, .val (.long l3), .second, .val (.long l4), .second, .val (.int nz), .val (.ref b1), .val (.int (sel &&& (3 : Int32))), .val (.int kk), .val (.int stp), .val (.double vv), .second, .val (.ref b12), .val (.int (own_bs 6 (own_P [own_mean l0 nz, own_mean l1 nz, own_mean l2 nz, own_mean l3 nz, own_mean l4 nz] vv) 0 sz)), .unset] [(.int (own_na (own_P [own_mean l0 nz, own_mean l1 nz, own_mean l2 nz, own_mean l3 nz, own_mean l4 nz] vv) sz (0 : Int32)))])
  refine Go.of (fun _ kz => XS.aload X16.here hx rfl (hb hby at_288) rfl rfl kz) ?_
  show Go p e below _ T16 (mkF m 290 #[.val (.int xa), .val (.long gaps), .second, .val (.int sel), .val (.int xv), .val (.int sz), .val (.long l0), .second, .val (.long l1), .second, .val (.long l2), .second, .val (.long l3), .second, .val (.long l4), .second, .val (.int nz), .val (.ref b1), .val (.int (sel &&& (3 : Int32))), .val (.int kk), .val (.int stp), .val (.double vv), .second, .val (.ref b12), .val (.int (own_bs 6 (own_P [own_mean l0 nz, own_mean l1 nz, own_mean l2 nz, own_mean l3 nz, own_mean l4 nz] vv) 0 sz)), .unset] [(.ref b1), (.int (own_na (own_P [own_mean l0 nz, own_mean l1 nz, own_mean l2 nz, own_mean l3 nz, own_mean l4 nz] vv) sz (0 : Int32)))])
  refine Go.of (fun _ kz => XS.iconst X16.here hx rfl (hb hby at_290) kz) ?_
  show Go p e below _ T16 (mkF m 291 #[.val (.int xa), .val (.long gaps), .second, .val (.int sel), .val (.int xv), .val (.int sz), .val (.long l0), .second, .val (.long l1), .second, .val (.long l2), .second, .val (.long l3), .second, .val (.long l4), .second, .val (.int nz), .val (.ref b1), .val (.int (sel &&& (3 : Int32))), .val (.int kk), .val (.int stp), .val (.double vv), .second, .val (.ref b12), .val (.int (own_bs 6 (own_P [own_mean l0 nz, own_mean l1 nz, own_mean l2 nz, own_mean l3 nz, own_mean l4 nz] vv) 0 sz)), .unset] [(.int (1 : Int32)), (.ref b1), (.int (own_na (own_P [own_mean l0 nz, own_mean l1 nz, own_mean l2 nz, own_mean l3 nz, own_mean l4 nz] vv) sz (0 : Int32)))])
  refine Go.of (fun _ kz => XS.iload X16.here hx rfl (hb hby at_291) rfl kz) ?_
  show Go p e below _ T16 (mkF m 293 #[.val (.int xa), .val (.long gaps), .second, .val (.int sel), .val (.int xv), .val (.int sz), .val (.long l0), .second, .val (.long l1), .second, .val (.long l2), .second, .val (.long l3), .second, .val (.long l4), .second, .val (.int nz), .val (.ref b1), .val (.int (sel &&& (3 : Int32))), .val (.int kk), .val (.int stp), .val (.double vv), .second, .val (.ref b12), .val (.int (own_bs 6 (own_P [own_mean l0 nz, own_mean l1 nz, own_mean l2 nz, own_mean l3 nz, own_mean l4 nz] vv) 0 sz)), .unset] [(.int sz), (.int (1 : Int32)), (.ref b1), (.int (own_na (own_P [own_mean l0 nz, own_mean l1 nz, own_mean l2 nz, own_mean l3 nz, own_mean l4 nz] vv) sz (0 : Int32)))])
  refine Go.of (fun _ kz => XS.dload X16.here hx rfl (hb hby at_293) rfl kz) ?_
  show Go p e below _ T16 (mkF m 295 #[.val (.int xa), .val (.long gaps), .second, .val (.int sel), .val (.int xv), .val (.int sz), .val (.long l0), .second, .val (.long l1), .second, .val (.long l2), .second, .val (.long l3), .second, .val (.long l4), .second, .val (.int nz), .val (.ref b1), .val (.int (sel &&& (3 : Int32))), .val (.int kk), .val (.int stp), .val (.double vv), .second, .val (.ref b12), .val (.int (own_bs 6 (own_P [own_mean l0 nz, own_mean l1 nz, own_mean l2 nz, own_mean l3 nz, own_mean l4 nz] vv) 0 sz)), .unset] [(.double vv), (.int sz), (.int (1 : Int32)), (.ref b1), (.int (own_na (own_P [own_mean l0 nz, own_mean l1 nz, own_mean l2 nz, own_mean l3 nz, own_mean l4 nz] vv) sz (0 : Int32)))])
  refine Go.callSP (W := 1) (y := (⟨"com/example/joulepath/joulepath/core/powerlog/SortedMeansFirstAbovePinLaw", "notAbove", "([DIID)I"⟩ : MethodName)) (argsL := [(.ref b1), (.int (1 : Int32)), (.int sz), (.double vv)]) (rest := [(.int (own_na (own_P [own_mean l0 nz, own_mean l1 nz, own_mean l2 nz, own_mean l3 nz, own_mean l4 nz] vv) sz (0 : Int32)))]) (r := some (.int (own_na (own_P [own_mean l0 nz, own_mean l1 nz, own_mean l2 nz, own_mean l3 nz, own_mean l4 nz] vv) sz (1 : Int32)))) X16 hx hZ hown (hw _ (List.mem_of_getElem? (i := 29) rfl)) (hw _ (List.mem_of_getElem? (i := 30) rfl)) (hw _ (List.mem_of_getElem? (i := 5) rfl)) (hw _ (List.mem_of_getElem? (i := 31) rfl)) (by decide) (own_rmN l Z a0 hw b1 (1 : Int32) sz vv k1 [own_mean l0 nz, own_mean l1 nz, own_mean l2 nz, own_mean l3 nz, own_mean l4 nz] T14.heap (((V11.ext E12).ext E13).keep K14 (ninS (Nat.ne_of_lt lt_b1_b12) nin0)) (by decide)) e16 (by rw [hml]; rfl) (lenOf own_dsc3 rfl) (hb hby at_295) rfl (Nat.le_of_eq rfl) (by decide) (by decide) (by decide) (by decide) fun T17 X17 e17 => ?_
  show Go p e below _ T17 (mkF m 298 #[.val (.int xa), .val (.long gaps), .second, .val (.int sel), .val (.int xv), .val (.int sz), .val (.long l0), .second, .val (.long l1), .second, .val (.long l2), .second, .val (.long l3), .second, .val (.long l4), .second, .val (.int nz), .val (.ref b1), .val (.int (sel &&& (3 : Int32))), .val (.int kk), .val (.int stp), .val (.double vv), .second, .val (.ref b12), .val (.int (own_bs 6 (own_P [own_mean l0 nz, own_mean l1 nz, own_mean l2 nz, own_mean l3 nz, own_mean l4 nz] vv) 0 sz)), .unset] [(.int (own_na (own_P [own_mean l0 nz, own_mean l1 nz, own_mean l2 nz, own_mean l3 nz, own_mean l4 nz] vv) sz (1 : Int32))), (.int (own_na (own_P [own_mean l0 nz, own_mean l1 nz, own_mean l2 nz, own_mean l3 nz, own_mean l4 nz] vv) sz (0 : Int32)))])
  refine Go.of (fun _ kz => XS.iadd X17.here hx rfl (hb hby at_298) rfl kz) ?_
  show Go p e below _ T17 (mkF m 299 #[.val (.int xa), .val (.long gaps), .second, .val (.int sel), .val (.int xv), .val (.int sz), .val (.long l0), .second, .val (.long l1), .second, .val (.long l2), .second, .val (.long l3), .second, .val (.long l4), .second, .val (.int nz), .val (.ref b1), .val (.int (sel &&& (3 : Int32))), .val (.int kk), .val (.int stp), .val (.double vv), .second, .val (.ref b12), .val (.int (own_bs 6 (own_P [own_mean l0 nz, own_mean l1 nz, own_mean l2 nz, own_mean l3 nz, own_mean l4 nz] vv) 0 sz)), .unset] [(.int ((own_na (own_P [own_mean l0 nz, own_mean l1 nz, own_mean l2 nz, own_mean l3 nz, own_mean l4 nz] vv) sz (0 : Int32)) + (own_na (own_P [own_mean l0 nz, own_mean l1 nz, own_mean l2 nz, own_mean l3 nz, own_mean l4 nz] vv) sz (1 : Int32))))])
  refine Go.of (fun _ kz => XS.aload X17.here hx rfl (hb hby at_299) rfl rfl kz) ?_
  show Go p e below _ T17 (mkF m 301 #[.val (.int xa), .val (.long gaps), .second, .val (.int sel), .val (.int xv), .val (.int sz), .val (.long l0), .second, .val (.long l1), .second, .val (.long l2), .second, .val (.long l3), .second, .val (.long l4), .second, .val (.int nz), .val (.ref b1), .val (.int (sel &&& (3 : Int32))), .val (.int kk), .val (.int stp), .val (.double vv), .second, .val (.ref b12), .val (.int (own_bs 6 (own_P [own_mean l0 nz, own_mean l1 nz, own_mean l2 nz, own_mean l3 nz, own_mean l4 nz] vv) 0 sz)), .unset] [(.ref b1), (.int ((own_na (own_P [own_mean l0 nz, own_mean l1 nz, own_mean l2 nz, own_mean l3 nz, own_mean l4 nz] vv) sz (0 : Int32)) + (own_na (own_P [own_mean l0 nz, own_mean l1 nz, own_mean l2 nz, own_mean l3 nz, own_mean l4 nz] vv) sz (1 : Int32))))])
  refine Go.of (fun _ kz => XS.iconst X17.here hx rfl (hb hby at_301) kz) ?_
  show Go p e below _ T17 (mkF m 302 #[.val (.int xa), .val (.long gaps), .second, .val (.int sel), .val (.int xv), .val (.int sz), .val (.long l0), .second, .val (.long l1), .second, .val (.long l2), .second, .val (.long l3), .second, .val (.long l4), .second, .val (.int nz), .val (.ref b1), .val (.int (sel &&& (3 : Int32))), .val (.int kk), .val (.int stp), .val (.double vv), .second, .val (.ref b12), .val (.int (own_bs 6 (own_P [own_mean l0 nz, own_mean l1 nz, own_mean l2 nz, own_mean l3 nz, own_mean l4 nz] vv) 0 sz)), .unset] [(.int (2 : Int32)), (.ref b1), (.int ((own_na (own_P [own_mean l0 nz, own_mean l1 nz, own_mean l2 nz, own_mean l3 nz, own_mean l4 nz] vv) sz (0 : Int32)) + (own_na (own_P [own_mean l0 nz, own_mean l1 nz, own_mean l2 nz, own_mean l3 nz, own_mean l4 nz] vv) sz (1 : Int32))))])
  refine Go.of (fun _ kz => XS.iload X17.here hx rfl (hb hby at_302) rfl kz) ?_
  show Go p e below _ T17 (mkF m 304 #[.val (.int xa), .val (.long gaps), .second, .val (.int sel), .val (.int xv), .val (.int sz), .val (.long l0), .second, .val (.long l1), .second, .val (.long l2), .second, .val (.long l3), .second, .val (.long l4), .second, .val (.int nz), .val (.ref b1), .val (.int (sel &&& (3 : Int32))), .val (.int kk), .val (.int stp), .val (.double vv), .second, .val (.ref b12), .val (.int (own_bs 6 (own_P [own_mean l0 nz, own_mean l1 nz, own_mean l2 nz, own_mean l3 nz, own_mean l4 nz] vv) 0 sz)), .unset] [(.int sz), (.int (2 : Int32)), (.ref b1), (.int ((own_na (own_P [own_mean l0 nz, own_mean l1 nz, own_mean l2 nz, own_mean l3 nz, own_mean l4 nz] vv) sz (0 : Int32)) + (own_na (own_P [own_mean l0 nz, own_mean l1 nz, own_mean l2 nz, own_mean l3 nz, own_mean l4 nz] vv) sz (1 : Int32))))])
  refine Go.of (fun _ kz => XS.dload X17.here hx rfl (hb hby at_304) rfl kz) ?_
  show Go p e below _ T17 (mkF m 306 #[.val (.int xa), .val (.long gaps), .second, .val (.int sel), .val (.int xv), .val (.int sz), .val (.long l0), .second, .val (.long l1), .second, .val (.long l2), .second, .val (.long l3), .second, .val (.long l4), .second, .val (.int nz), .val (.ref b1), .val (.int (sel &&& (3 : Int32))), .val (.int kk), .val (.int stp), .val (.double vv), .second, .val (.ref b12), .val (.int (own_bs 6 (own_P [own_mean l0 nz, own_mean l1 nz, own_mean l2 nz, own_mean l3 nz, own_mean l4 nz] vv) 0 sz)), .unset] [(.double vv), (.int sz), (.int (2 : Int32)), (.ref b1), (.int ((own_na (own_P [own_mean l0 nz, own_mean l1 nz, own_mean l2 nz, own_mean l3 nz, own_mean l4 nz] vv) sz (0 : Int32)) + (own_na (own_P [own_mean l0 nz, own_mean l1 nz, own_mean l2 nz, own_mean l3 nz, own_mean l4 nz] vv) sz (1 : Int32))))])
  refine Go.callSP (W := 1) (y := (⟨"com/example/joulepath/joulepath/core/powerlog/SortedMeansFirstAbovePinLaw", "notAbove", "([DIID)I"⟩ : MethodName)) (argsL := [(.ref b1), (.int (2 : Int32)), (.int sz), (.double vv)]) (rest := [(.int ((own_na (own_P [own_mean l0 nz, own_mean l1 nz, own_mean l2 nz, own_mean l3 nz, own_mean l4 nz] vv) sz (0 : Int32)) + (own_na (own_P [own_mean l0 nz, own_mean l1 nz, own_mean l2 nz, own_mean l3 nz, own_mean l4 nz] vv) sz (1 : Int32))))]) (r := some (.int (own_na (own_P [own_mean l0 nz, own_mean l1 nz, own_mean l2 nz, own_mean l3 nz, own_mean l4 nz] vv) sz (2 : Int32)))) X17 hx hZ hown (hw _ (List.mem_of_getElem? (i := 29) rfl)) (hw _ (List.mem_of_getElem? (i := 30) rfl)) (hw _ (List.mem_of_getElem? (i := 5) rfl)) (hw _ (List.mem_of_getElem? (i := 31) rfl)) (by decide) (own_rmN l Z a0 hw b1 (2 : Int32) sz vv k1 [own_mean l0 nz, own_mean l1 nz, own_mean l2 nz, own_mean l3 nz, own_mean l4 nz] T14.heap (((V11.ext E12).ext E13).keep K14 (ninS (Nat.ne_of_lt lt_b1_b12) nin0)) (by decide)) e17 (by rw [hml]; rfl) (lenOf own_dsc3 rfl) (hb hby at_306) rfl (Nat.le_of_eq rfl) (by decide) (by decide) (by decide) (by decide) fun T18 X18 e18 => ?_
  show Go p e below _ T18 (mkF m 309 #[.val (.int xa), .val (.long gaps), .second, .val (.int sel), .val (.int xv), .val (.int sz), .val (.long l0), .second, .val (.long l1), .second, .val (.long l2), .second, .val (.long l3), .second, .val (.long l4), .second, .val (.int nz), .val (.ref b1), .val (.int (sel &&& (3 : Int32))), .val (.int kk), .val (.int stp), .val (.double vv), .second, .val (.ref b12), .val (.int (own_bs 6 (own_P [own_mean l0 nz, own_mean l1 nz, own_mean l2 nz, own_mean l3 nz, own_mean l4 nz] vv) 0 sz)), .unset] [(.int (own_na (own_P [own_mean l0 nz, own_mean l1 nz, own_mean l2 nz, own_mean l3 nz, own_mean l4 nz] vv) sz (2 : Int32))), (.int ((own_na (own_P [own_mean l0 nz, own_mean l1 nz, own_mean l2 nz, own_mean l3 nz, own_mean l4 nz] vv) sz (0 : Int32)) + (own_na (own_P [own_mean l0 nz, own_mean l1 nz, own_mean l2 nz, own_mean l3 nz, own_mean l4 nz] vv) sz (1 : Int32))))])
  refine Go.of (fun _ kz => XS.iadd X18.here hx rfl (hb hby at_309) rfl kz) ?_
  show Go p e below _ T18 (mkF m 310 #[.val (.int xa), .val (.long gaps), .second, .val (.int sel), .val (.int xv), .val (.int sz), .val (.long l0), .second, .val (.long l1), .second, .val (.long l2), .second, .val (.long l3), .second, .val (.long l4), .second, .val (.int nz), .val (.ref b1), .val (.int (sel &&& (3 : Int32))), .val (.int kk), .val (.int stp), .val (.double vv), .second, .val (.ref b12), .val (.int (own_bs 6 (own_P [own_mean l0 nz, own_mean l1 nz, own_mean l2 nz, own_mean l3 nz, own_mean l4 nz] vv) 0 sz)), .unset] [(.int (((own_na (own_P [own_mean l0 nz, own_mean l1 nz, own_mean l2 nz, own_mean l3 nz, own_mean l4 nz] vv) sz (0 : Int32)) + (own_na (own_P [own_mean l0 nz, own_mean l1 nz, own_mean l2 nz, own_mean l3 nz, own_mean l4 nz] vv) sz (1 : Int32))) + (own_na (own_P [own_mean l0 nz, own_mean l1 nz, own_mean l2 nz, own_mean l3 nz, own_mean l4 nz] vv) sz (2 : Int32))))])
  refine Go.of (fun _ kz => XS.aload X18.here hx rfl (hb hby at_310) rfl rfl kz) ?_
  show Go p e below _ T18 (mkF m 312 #[.val (.int xa), .val (.long gaps), .second, .val (.int sel), .val (.int xv), .val (.int sz), .val (.long l0), .second, .val (.long l1), .second, .val (.long l2), .second, .val (.long l3), .second, .val (.long l4), .second, .val (.int nz), .val (.ref b1), .val (.int (sel &&& (3 : Int32))), .val (.int kk), .val (.int stp), .val (.double vv), .second, .val (.ref b12), .val (.int (own_bs 6 (own_P [own_mean l0 nz, own_mean l1 nz, own_mean l2 nz, own_mean l3 nz, own_mean l4 nz] vv) 0 sz)), .unset] [(.ref b1), (.int (((own_na (own_P [own_mean l0 nz, own_mean l1 nz, own_mean l2 nz, own_mean l3 nz, own_mean l4 nz] vv) sz (0 : Int32)) + (own_na (own_P [own_mean l0 nz, own_mean l1 nz, own_mean l2 nz, own_mean l3 nz, own_mean l4 nz] vv) sz (1 : Int32))) + (own_na (own_P [own_mean l0 nz, own_mean l1 nz, own_mean l2 nz, own_mean l3 nz, own_mean l4 nz] vv) sz (2 : Int32))))])
  refine Go.of (fun _ kz => XS.iconst X18.here hx rfl (hb hby at_312) kz) ?_
  show Go p e below _ T18 (mkF m 313 #[.val (.int xa), .val (.long gaps), .second, .val (.int sel), .val (.int xv), .val (.int sz), .val (.long l0), .second, .val (.long l1), .second, .val (.long l2), .second, .val (.long l3), .second, .val (.long l4), .second, .val (.int nz), .val (.ref b1), .val (.int (sel &&& (3 : Int32))), .val (.int kk), .val (.int stp), .val (.double vv), .second, .val (.ref b12), .val (.int (own_bs 6 (own_P [own_mean l0 nz, own_mean l1 nz, own_mean l2 nz, own_mean l3 nz, own_mean l4 nz] vv) 0 sz)), .unset] [(.int (3 : Int32)), (.ref b1), (.int (((own_na (own_P [own_mean l0 nz, own_mean l1 nz, own_mean l2 nz, own_mean l3 nz, own_mean l4 nz] vv) sz (0 : Int32)) + (own_na (own_P [own_mean l0 nz, own_mean l1 nz, own_mean l2 nz, own_mean l3 nz, own_mean l4 nz] vv) sz (1 : Int32))) + (own_na (own_P [own_mean l0 nz, own_mean l1 nz, own_mean l2 nz, own_mean l3 nz, own_mean l4 nz] vv) sz (2 : Int32))))])
  refine Go.of (fun _ kz => XS.iload X18.here hx rfl (hb hby at_313) rfl kz) ?_
  show Go p e below _ T18 (mkF m 315 #[.val (.int xa), .val (.long gaps), .second, .val (.int sel), .val (.int xv), .val (.int sz), .val (.long l0), .second, .val (.long l1), .second, .val (.long l2), .second, .val (.long l3), .second, .val (.long l4), .second, .val (.int nz), .val (.ref b1), .val (.int (sel &&& (3 : Int32))), .val (.int kk), .val (.int stp), .val (.double vv), .second, .val (.ref b12), .val (.int (own_bs 6 (own_P [own_mean l0 nz, own_mean l1 nz, own_mean l2 nz, own_mean l3 nz, own_mean l4 nz] vv) 0 sz)), .unset] [(.int sz), (.int (3 : Int32)), (.ref b1), (.int (((own_na (own_P [own_mean l0 nz, own_mean l1 nz, own_mean l2 nz, own_mean l3 nz, own_mean l4 nz] vv) sz (0 : Int32)) + (own_na (own_P [own_mean l0 nz, own_mean l1 nz, own_mean l2 nz, own_mean l3 nz, own_mean l4 nz] vv) sz (1 : Int32))) + (own_na (own_P [own_mean l0 nz, own_mean l1 nz, own_mean l2 nz, own_mean l3 nz, own_mean l4 nz] vv) sz (2 : Int32))))])
  refine Go.of (fun _ kz => XS.dload X18.here hx rfl (hb hby at_315) rfl kz) ?_
  show Go p e below _ T18 (mkF m 317 #[.val (.int xa), .val (.long gaps), .second, .val (.int sel), .val (.int xv), .val (.int sz), .val (.long l0), .second, .val (.long l1), .second, .val (.long l2), .second, .val (.long l3), .second, .val (.long l4), .second, .val (.int nz), .val (.ref b1), .val (.int (sel &&& (3 : Int32))), .val (.int kk), .val (.int stp), .val (.double vv), .second, .val (.ref b12), .val (.int (own_bs 6 (own_P [own_mean l0 nz, own_mean l1 nz, own_mean l2 nz, own_mean l3 nz, own_mean l4 nz] vv) 0 sz)), .unset] [(.double vv), (.int sz), (.int (3 : Int32)), (.ref b1), (.int (((own_na (own_P [own_mean l0 nz, own_mean l1 nz, own_mean l2 nz, own_mean l3 nz, own_mean l4 nz] vv) sz (0 : Int32)) + (own_na (own_P [own_mean l0 nz, own_mean l1 nz, own_mean l2 nz, own_mean l3 nz, own_mean l4 nz] vv) sz (1 : Int32))) + (own_na (own_P [own_mean l0 nz, own_mean l1 nz, own_mean l2 nz, own_mean l3 nz, own_mean l4 nz] vv) sz (2 : Int32))))])
  refine Go.callSP (W := 1) (y := (⟨"com/example/joulepath/joulepath/core/powerlog/SortedMeansFirstAbovePinLaw", "notAbove", "([DIID)I"⟩ : MethodName)) (argsL := [(.ref b1), (.int (3 : Int32)), (.int sz), (.double vv)]) (rest := [(.int (((own_na (own_P [own_mean l0 nz, own_mean l1 nz, own_mean l2 nz, own_mean l3 nz, own_mean l4 nz] vv) sz (0 : Int32)) + (own_na (own_P [own_mean l0 nz, own_mean l1 nz, own_mean l2 nz, own_mean l3 nz, own_mean l4 nz] vv) sz (1 : Int32))) + (own_na (own_P [own_mean l0 nz, own_mean l1 nz, own_mean l2 nz, own_mean l3 nz, own_mean l4 nz] vv) sz (2 : Int32))))]) (r := some (.int (own_na (own_P [own_mean l0 nz, own_mean l1 nz, own_mean l2 nz, own_mean l3 nz, own_mean l4 nz] vv) sz (3 : Int32)))) X18 hx hZ hown (hw _ (List.mem_of_getElem? (i := 29) rfl)) (hw _ (List.mem_of_getElem? (i := 30) rfl)) (hw _ (List.mem_of_getElem? (i := 5) rfl)) (hw _ (List.mem_of_getElem? (i := 31) rfl)) (by decide) (own_rmN l Z a0 hw b1 (3 : Int32) sz vv k1 [own_mean l0 nz, own_mean l1 nz, own_mean l2 nz, own_mean l3 nz, own_mean l4 nz] T14.heap (((V11.ext E12).ext E13).keep K14 (ninS (Nat.ne_of_lt lt_b1_b12) nin0)) (by decide)) e18 (by rw [hml]; rfl) (lenOf own_dsc3 rfl) (hb hby at_317) rfl (Nat.le_of_eq rfl) (by decide) (by decide) (by decide) (by decide) fun T19 X19 e19 => ?_
  show Go p e below _ T19 (mkF m 320 #[.val (.int xa), .val (.long gaps), .second, .val (.int sel), .val (.int xv), .val (.int sz), .val (.long l0), .second, .val (.long l1), .second, .val (.long l2), .second, .val (.long l3), .second, .val (.long l4), .second, .val (.int nz), .val (.ref b1), .val (.int (sel &&& (3 : Int32))), .val (.int kk), .val (.int stp), .val (.double vv), .second, .val (.ref b12), .val (.int (own_bs 6 (own_P [own_mean l0 nz, own_mean l1 nz, own_mean l2 nz, own_mean l3 nz, own_mean l4 nz] vv) 0 sz)), .unset] [(.int (own_na (own_P [own_mean l0 nz, own_mean l1 nz, own_mean l2 nz, own_mean l3 nz, own_mean l4 nz] vv) sz (3 : Int32))), (.int (((own_na (own_P [own_mean l0 nz, own_mean l1 nz, own_mean l2 nz, own_mean l3 nz, own_mean l4 nz] vv) sz (0 : Int32)) + (own_na (own_P [own_mean l0 nz, own_mean l1 nz, own_mean l2 nz, own_mean l3 nz, own_mean l4 nz] vv) sz (1 : Int32))) + (own_na (own_P [own_mean l0 nz, own_mean l1 nz, own_mean l2 nz, own_mean l3 nz, own_mean l4 nz] vv) sz (2 : Int32))))])
  refine Go.of (fun _ kz => XS.iadd X19.here hx rfl (hb hby at_320) rfl kz) ?_
  show Go p e below _ T19 (mkF m 321 #[.val (.int xa), .val (.long gaps), .second, .val (.int sel), .val (.int xv), .val (.int sz), .val (.long l0), .second, .val (.long l1), .second, .val (.long l2), .second, .val (.long l3), .second, .val (.long l4), .second, .val (.int nz), .val (.ref b1), .val (.int (sel &&& (3 : Int32))), .val (.int kk), .val (.int stp), .val (.double vv), .second, .val (.ref b12), .val (.int (own_bs 6 (own_P [own_mean l0 nz, own_mean l1 nz, own_mean l2 nz, own_mean l3 nz, own_mean l4 nz] vv) 0 sz)), .unset] [(.int ((((own_na (own_P [own_mean l0 nz, own_mean l1 nz, own_mean l2 nz, own_mean l3 nz, own_mean l4 nz] vv) sz (0 : Int32)) + (own_na (own_P [own_mean l0 nz, own_mean l1 nz, own_mean l2 nz, own_mean l3 nz, own_mean l4 nz] vv) sz (1 : Int32))) + (own_na (own_P [own_mean l0 nz, own_mean l1 nz, own_mean l2 nz, own_mean l3 nz, own_mean l4 nz] vv) sz (2 : Int32))) + (own_na (own_P [own_mean l0 nz, own_mean l1 nz, own_mean l2 nz, own_mean l3 nz, own_mean l4 nz] vv) sz (3 : Int32))))])
  refine Go.of (fun _ kz => XS.aload X19.here hx rfl (hb hby at_321) rfl rfl kz) ?_
  show Go p e below _ T19 (mkF m 323 #[.val (.int xa), .val (.long gaps), .second, .val (.int sel), .val (.int xv), .val (.int sz), .val (.long l0), .second, .val (.long l1), .second, .val (.long l2), .second, .val (.long l3), .second, .val (.long l4), .second, .val (.int nz), .val (.ref b1), .val (.int (sel &&& (3 : Int32))), .val (.int kk), .val (.int stp), .val (.double vv), .second, .val (.ref b12), .val (.int (own_bs 6 (own_P [own_mean l0 nz, own_mean l1 nz, own_mean l2 nz, own_mean l3 nz, own_mean l4 nz] vv) 0 sz)), .unset] [(.ref b1), (.int ((((own_na (own_P [own_mean l0 nz, own_mean l1 nz, own_mean l2 nz, own_mean l3 nz, own_mean l4 nz] vv) sz (0 : Int32)) + (own_na (own_P [own_mean l0 nz, own_mean l1 nz, own_mean l2 nz, own_mean l3 nz, own_mean l4 nz] vv) sz (1 : Int32))) + (own_na (own_P [own_mean l0 nz, own_mean l1 nz, own_mean l2 nz, own_mean l3 nz, own_mean l4 nz] vv) sz (2 : Int32))) + (own_na (own_P [own_mean l0 nz, own_mean l1 nz, own_mean l2 nz, own_mean l3 nz, own_mean l4 nz] vv) sz (3 : Int32))))])
  refine Go.of (fun _ kz => XS.iconst X19.here hx rfl (hb hby at_323) kz) ?_
  show Go p e below _ T19 (mkF m 324 #[.val (.int xa), .val (.long gaps), .second, .val (.int sel), .val (.int xv), .val (.int sz), .val (.long l0), .second, .val (.long l1), .second, .val (.long l2), .second, .val (.long l3), .second, .val (.long l4), .second, .val (.int nz), .val (.ref b1), .val (.int (sel &&& (3 : Int32))), .val (.int kk), .val (.int stp), .val (.double vv), .second, .val (.ref b12), .val (.int (own_bs 6 (own_P [own_mean l0 nz, own_mean l1 nz, own_mean l2 nz, own_mean l3 nz, own_mean l4 nz] vv) 0 sz)), .unset] [(.int (4 : Int32)), (.ref b1), (.int ((((own_na (own_P [own_mean l0 nz, own_mean l1 nz, own_mean l2 nz, own_mean l3 nz, own_mean l4 nz] vv) sz (0 : Int32)) + (own_na (own_P [own_mean l0 nz, own_mean l1 nz, own_mean l2 nz, own_mean l3 nz, own_mean l4 nz] vv) sz (1 : Int32))) + (own_na (own_P [own_mean l0 nz, own_mean l1 nz, own_mean l2 nz, own_mean l3 nz, own_mean l4 nz] vv) sz (2 : Int32))) + (own_na (own_P [own_mean l0 nz, own_mean l1 nz, own_mean l2 nz, own_mean l3 nz, own_mean l4 nz] vv) sz (3 : Int32))))])
  refine Go.of (fun _ kz => XS.iload X19.here hx rfl (hb hby at_324) rfl kz) ?_
  show Go p e below _ T19 (mkF m 326 #[.val (.int xa), .val (.long gaps), .second, .val (.int sel), .val (.int xv), .val (.int sz), .val (.long l0), .second, .val (.long l1), .second, .val (.long l2), .second, .val (.long l3), .second, .val (.long l4), .second, .val (.int nz), .val (.ref b1), .val (.int (sel &&& (3 : Int32))), .val (.int kk), .val (.int stp), .val (.double vv), .second, .val (.ref b12), .val (.int (own_bs 6 (own_P [own_mean l0 nz, own_mean l1 nz, own_mean l2 nz, own_mean l3 nz, own_mean l4 nz] vv) 0 sz)), .unset] [(.int sz), (.int (4 : Int32)), (.ref b1), (.int ((((own_na (own_P [own_mean l0 nz, own_mean l1 nz, own_mean l2 nz, own_mean l3 nz, own_mean l4 nz] vv) sz (0 : Int32)) + (own_na (own_P [own_mean l0 nz, own_mean l1 nz, own_mean l2 nz, own_mean l3 nz, own_mean l4 nz] vv) sz (1 : Int32))) + (own_na (own_P [own_mean l0 nz, own_mean l1 nz, own_mean l2 nz, own_mean l3 nz, own_mean l4 nz] vv) sz (2 : Int32))) + (own_na (own_P [own_mean l0 nz, own_mean l1 nz, own_mean l2 nz, own_mean l3 nz, own_mean l4 nz] vv) sz (3 : Int32))))])
  refine Go.of (fun _ kz => XS.dload X19.here hx rfl (hb hby at_326) rfl kz) ?_
  show Go p e below _ T19 (mkF m 328 #[.val (.int xa), .val (.long gaps), .second, .val (.int sel), .val (.int xv), .val (.int sz), .val (.long l0), .second, .val (.long l1), .second, .val (.long l2), .second, .val (.long l3), .second, .val (.long l4), .second, .val (.int nz), .val (.ref b1), .val (.int (sel &&& (3 : Int32))), .val (.int kk), .val (.int stp), .val (.double vv), .second, .val (.ref b12), .val (.int (own_bs 6 (own_P [own_mean l0 nz, own_mean l1 nz, own_mean l2 nz, own_mean l3 nz, own_mean l4 nz] vv) 0 sz)), .unset] [(.double vv), (.int sz), (.int (4 : Int32)), (.ref b1), (.int ((((own_na (own_P [own_mean l0 nz, own_mean l1 nz, own_mean l2 nz, own_mean l3 nz, own_mean l4 nz] vv) sz (0 : Int32)) + (own_na (own_P [own_mean l0 nz, own_mean l1 nz, own_mean l2 nz, own_mean l3 nz, own_mean l4 nz] vv) sz (1 : Int32))) + (own_na (own_P [own_mean l0 nz, own_mean l1 nz, own_mean l2 nz, own_mean l3 nz, own_mean l4 nz] vv) sz (2 : Int32))) + (own_na (own_P [own_mean l0 nz, own_mean l1 nz, own_mean l2 nz, own_mean l3 nz, own_mean l4 nz] vv) sz (3 : Int32))))])
  refine Go.callSP (W := 1) (y := (⟨"com/example/joulepath/joulepath/core/powerlog/SortedMeansFirstAbovePinLaw", "notAbove", "([DIID)I"⟩ : MethodName)) (argsL := [(.ref b1), (.int (4 : Int32)), (.int sz), (.double vv)]) (rest := [(.int ((((own_na (own_P [own_mean l0 nz, own_mean l1 nz, own_mean l2 nz, own_mean l3 nz, own_mean l4 nz] vv) sz (0 : Int32)) + (own_na (own_P [own_mean l0 nz, own_mean l1 nz, own_mean l2 nz, own_mean l3 nz, own_mean l4 nz] vv) sz (1 : Int32))) + (own_na (own_P [own_mean l0 nz, own_mean l1 nz, own_mean l2 nz, own_mean l3 nz, own_mean l4 nz] vv) sz (2 : Int32))) + (own_na (own_P [own_mean l0 nz, own_mean l1 nz, own_mean l2 nz, own_mean l3 nz, own_mean l4 nz] vv) sz (3 : Int32))))]) (r := some (.int (own_na (own_P [own_mean l0 nz, own_mean l1 nz, own_mean l2 nz, own_mean l3 nz, own_mean l4 nz] vv) sz (4 : Int32)))) X19 hx hZ hown (hw _ (List.mem_of_getElem? (i := 29) rfl)) (hw _ (List.mem_of_getElem? (i := 30) rfl)) (hw _ (List.mem_of_getElem? (i := 5) rfl)) (hw _ (List.mem_of_getElem? (i := 31) rfl)) (by decide) (own_rmN l Z a0 hw b1 (4 : Int32) sz vv k1 [own_mean l0 nz, own_mean l1 nz, own_mean l2 nz, own_mean l3 nz, own_mean l4 nz] T14.heap (((V11.ext E12).ext E13).keep K14 (ninS (Nat.ne_of_lt lt_b1_b12) nin0)) (by decide)) e19 (by rw [hml]; rfl) (lenOf own_dsc3 rfl) (hb hby at_328) rfl (Nat.le_of_eq rfl) (by decide) (by decide) (by decide) (by decide) fun T20 X20 e20 => ?_
  show Go p e below _ T20 (mkF m 331 #[.val (.int xa), .val (.long gaps), .second, .val (.int sel), .val (.int xv), .val (.int sz), .val (.long l0), .second, .val (.long l1), .second, .val (.long l2), .second, .val (.long l3), .second, .val (.long l4), .second, .val (.int nz), .val (.ref b1), .val (.int (sel &&& (3 : Int32))), .val (.int kk), .val (.int stp), .val (.double vv), .second, .val (.ref b12), .val (.int (own_bs 6 (own_P [own_mean l0 nz, own_mean l1 nz, own_mean l2 nz, own_mean l3 nz, own_mean l4 nz] vv) 0 sz)), .unset] [(.int (own_na (own_P [own_mean l0 nz, own_mean l1 nz, own_mean l2 nz, own_mean l3 nz, own_mean l4 nz] vv) sz (4 : Int32))), (.int ((((own_na (own_P [own_mean l0 nz, own_mean l1 nz, own_mean l2 nz, own_mean l3 nz, own_mean l4 nz] vv) sz (0 : Int32)) + (own_na (own_P [own_mean l0 nz, own_mean l1 nz, own_mean l2 nz, own_mean l3 nz, own_mean l4 nz] vv) sz (1 : Int32))) + (own_na (own_P [own_mean l0 nz, own_mean l1 nz, own_mean l2 nz, own_mean l3 nz, own_mean l4 nz] vv) sz (2 : Int32))) + (own_na (own_P [own_mean l0 nz, own_mean l1 nz, own_mean l2 nz, own_mean l3 nz, own_mean l4 nz] vv) sz (3 : Int32))))])
  refine Go.of (fun _ kz => XS.iadd X20.here hx rfl (hb hby at_331) rfl kz) ?_
  show Go p e below _ T20 (mkF m 332 #[.val (.int xa), .val (.long gaps), .second, .val (.int sel), .val (.int xv), .val (.int sz), .val (.long l0), .second, .val (.long l1), .second, .val (.long l2), .second, .val (.long l3), .second, .val (.long l4), .second, .val (.int nz), .val (.ref b1), .val (.int (sel &&& (3 : Int32))), .val (.int kk), .val (.int stp), .val (.double vv), .second, .val (.ref b12), .val (.int (own_bs 6 (own_P [own_mean l0 nz, own_mean l1 nz, own_mean l2 nz, own_mean l3 nz, own_mean l4 nz] vv) 0 sz)), .unset] [(.int (((((own_na (own_P [own_mean l0 nz, own_mean l1 nz, own_mean l2 nz, own_mean l3 nz, own_mean l4 nz] vv) sz (0 : Int32)) + (own_na (own_P [own_mean l0 nz, own_mean l1 nz, own_mean l2 nz, own_mean l3 nz, own_mean l4 nz] vv) sz (1 : Int32))) + (own_na (own_P [own_mean l0 nz, own_mean l1 nz, own_mean l2 nz, own_mean l3 nz, own_mean l4 nz] vv) sz (2 : Int32))) + (own_na (own_P [own_mean l0 nz, own_mean l1 nz, own_mean l2 nz, own_mean l3 nz, own_mean l4 nz] vv) sz (3 : Int32))) + (own_na (own_P [own_mean l0 nz, own_mean l1 nz, own_mean l2 nz, own_mean l3 nz, own_mean l4 nz] vv) sz (4 : Int32))))])
  refine Go.of (fun _ kz => XS.istore X20.here hx rfl (hb hby at_332) rfl (l' := #[.val (.int xa), .val (.long gaps), .second, .val (.int sel), .val (.int xv), .val (.int sz), .val (.long l0), .second, .val (.long l1), .second, .val (.long l2), .second, .val (.long l3), .second, .val (.long l4), .second, .val (.int nz), .val (.ref b1), .val (.int (sel &&& (3 : Int32))), .val (.int kk), .val (.int stp), .val (.double vv), .second, .val (.ref b12), .val (.int (own_bs 6 (own_P [own_mean l0 nz, own_mean l1 nz, own_mean l2 nz, own_mean l3 nz, own_mean l4 nz] vv) 0 sz)), .val (.int (((((own_na (own_P [own_mean l0 nz, own_mean l1 nz, own_mean l2 nz, own_mean l3 nz, own_mean l4 nz] vv) sz (0 : Int32)) + (own_na (own_P [own_mean l0 nz, own_mean l1 nz, own_mean l2 nz, own_mean l3 nz, own_mean l4 nz] vv) sz (1 : Int32))) + (own_na (own_P [own_mean l0 nz, own_mean l1 nz, own_mean l2 nz, own_mean l3 nz, own_mean l4 nz] vv) sz (2 : Int32))) + (own_na (own_P [own_mean l0 nz, own_mean l1 nz, own_mean l2 nz, own_mean l3 nz, own_mean l4 nz] vv) sz (3 : Int32))) + (own_na (own_P [own_mean l0 nz, own_mean l1 nz, own_mean l2 nz, own_mean l3 nz, own_mean l4 nz] vv) sz (4 : Int32))))]) rfl kz) ?_
  show Go p e below _ T20 (mkF m 334 #[.val (.int xa), .val (.long gaps), .second, .val (.int sel), .val (.int xv), .val (.int sz), .val (.long l0), .second, .val (.long l1), .second, .val (.long l2), .second, .val (.long l3), .second, .val (.long l4), .second, .val (.int nz), .val (.ref b1), .val (.int (sel &&& (3 : Int32))), .val (.int kk), .val (.int stp), .val (.double vv), .second, .val (.ref b12), .val (.int (own_bs 6 (own_P [own_mean l0 nz, own_mean l1 nz, own_mean l2 nz, own_mean l3 nz, own_mean l4 nz] vv) 0 sz)), .val (.int (((((own_na (own_P [own_mean l0 nz, own_mean l1 nz, own_mean l2 nz, own_mean l3 nz, own_mean l4 nz] vv) sz (0 : Int32)) + (own_na (own_P [own_mean l0 nz, own_mean l1 nz, own_mean l2 nz, own_mean l3 nz, own_mean l4 nz] vv) sz (1 : Int32))) + (own_na (own_P [own_mean l0 nz, own_mean l1 nz, own_mean l2 nz, own_mean l3 nz, own_mean l4 nz] vv) sz (2 : Int32))) + (own_na (own_P [own_mean l0 nz, own_mean l1 nz, own_mean l2 nz, own_mean l3 nz, own_mean l4 nz] vv) sz (3 : Int32))) + (own_na (own_P [own_mean l0 nz, own_mean l1 nz, own_mean l2 nz, own_mean l3 nz, own_mean l4 nz] vv) sz (4 : Int32))))] [])
  refine Go.of (fun _ kz => XS.iload X20.here hx rfl (hb hby at_334) rfl kz) ?_
  show Go p e below _ T20 (mkF m 336 #[.val (.int xa), .val (.long gaps), .second, .val (.int sel), .val (.int xv), .val (.int sz), .val (.long l0), .second, .val (.long l1), .second, .val (.long l2), .second, .val (.long l3), .second, .val (.long l4), .second, .val (.int nz), .val (.ref b1), .val (.int (sel &&& (3 : Int32))), .val (.int kk), .val (.int stp), .val (.double vv), .second, .val (.ref b12), .val (.int (own_bs 6 (own_P [own_mean l0 nz, own_mean l1 nz, own_mean l2 nz, own_mean l3 nz, own_mean l4 nz] vv) 0 sz)), .val (.int (((((own_na (own_P [own_mean l0 nz, own_mean l1 nz, own_mean l2 nz, own_mean l3 nz, own_mean l4 nz] vv) sz (0 : Int32)) + (own_na (own_P [own_mean l0 nz, own_mean l1 nz, own_mean l2 nz, own_mean l3 nz, own_mean l4 nz] vv) sz (1 : Int32))) + (own_na (own_P [own_mean l0 nz, own_mean l1 nz, own_mean l2 nz, own_mean l3 nz, own_mean l4 nz] vv) sz (2 : Int32))) + (own_na (own_P [own_mean l0 nz, own_mean l1 nz, own_mean l2 nz, own_mean l3 nz, own_mean l4 nz] vv) sz (3 : Int32))) + (own_na (own_P [own_mean l0 nz, own_mean l1 nz, own_mean l2 nz, own_mean l3 nz, own_mean l4 nz] vv) sz (4 : Int32))))] [(.int (own_bs 6 (own_P [own_mean l0 nz, own_mean l1 nz, own_mean l2 nz, own_mean l3 nz, own_mean l4 nz] vv) 0 sz))])
  refine Go.of (fun _ kz => XS.iload X20.here hx rfl (hb hby at_336) rfl kz) ?_
  show Go p e below _ T20 (mkF m 338 #[.val (.int xa), .val (.long gaps), .second, .val (.int sel), .val (.int xv), .val (.int sz), .val (.long l0), .second, .val (.long l1), .second, .val (.long l2), .second, .val (.long l3), .second, .val (.long l4), .second, .val (.int nz), .val (.ref b1), .val (.int (sel &&& (3 : Int32))), .val (.int kk), .val (.int stp), .val (.double vv), .second, .val (.ref b12), .val (.int (own_bs 6 (own_P [own_mean l0 nz, own_mean l1 nz, own_mean l2 nz, own_mean l3 nz, own_mean l4 nz] vv) 0 sz)), .val (.int (((((own_na (own_P [own_mean l0 nz, own_mean l1 nz, own_mean l2 nz, own_mean l3 nz, own_mean l4 nz] vv) sz (0 : Int32)) + (own_na (own_P [own_mean l0 nz, own_mean l1 nz, own_mean l2 nz, own_mean l3 nz, own_mean l4 nz] vv) sz (1 : Int32))) + (own_na (own_P [own_mean l0 nz, own_mean l1 nz, own_mean l2 nz, own_mean l3 nz, own_mean l4 nz] vv) sz (2 : Int32))) + (own_na (own_P [own_mean l0 nz, own_mean l1 nz, own_mean l2 nz, own_mean l3 nz, own_mean l4 nz] vv) sz (3 : Int32))) + (own_na (own_P [own_mean l0 nz, own_mean l1 nz, own_mean l2 nz, own_mean l3 nz, own_mean l4 nz] vv) sz (4 : Int32))))] [(.int (((((own_na (own_P [own_mean l0 nz, own_mean l1 nz, own_mean l2 nz, own_mean l3 nz, own_mean l4 nz] vv) sz (0 : Int32)) + (own_na (own_P [own_mean l0 nz, own_mean l1 nz, own_mean l2 nz, own_mean l3 nz, own_mean l4 nz] vv) sz (1 : Int32))) + (own_na (own_P [own_mean l0 nz, own_mean l1 nz, own_mean l2 nz, own_mean l3 nz, own_mean l4 nz] vv) sz (2 : Int32))) + (own_na (own_P [own_mean l0 nz, own_mean l1 nz, own_mean l2 nz, own_mean l3 nz, own_mean l4 nz] vv) sz (3 : Int32))) + (own_na (own_P [own_mean l0 nz, own_mean l1 nz, own_mean l2 nz, own_mean l3 nz, own_mean l4 nz] vv) sz (4 : Int32)))), (.int (own_bs 6 (own_P [own_mean l0 nz, own_mean l1 nz, own_mean l2 nz, own_mean l3 nz, own_mean l4 nz] vv) 0 sz))])
  refine Go.of (fun _ kz => XS.icmpNo X20.here hx rfl (hb hby at_338) rfl (teq (by have s0 := own_small (b := l0) (by omega) (by omega); have s1 := own_small (b := l1) (by omega) (by omega); have s2 := own_small (b := l2) (by omega) (by omega); have s3 := own_small (b := l3) (by omega) (by omega); have s4 := own_small (b := l4) (by omega) (by omega); exact own_final hsz.1 hsz.2 (fun z => decide_eq_true (own_mono2 s0 s1 hg1.1 (of_decide_eq_true z))) (fun z => decide_eq_true (own_mono2 s1 s2 hg2.1 (of_decide_eq_true z))) (fun z => decide_eq_true (own_mono2 s2 s3 hg3.1 (of_decide_eq_true z))) (fun z => decide_eq_true (own_mono2 s3 s4 hg4.1 (of_decide_eq_true z))) : (own_bs 6 (own_P [own_mean l0 nz, own_mean l1 nz, own_mean l2 nz, own_mean l3 nz, own_mean l4 nz] vv) 0 sz) = (((((own_na (own_P [own_mean l0 nz, own_mean l1 nz, own_mean l2 nz, own_mean l3 nz, own_mean l4 nz] vv) sz (0 : Int32)) + (own_na (own_P [own_mean l0 nz, own_mean l1 nz, own_mean l2 nz, own_mean l3 nz, own_mean l4 nz] vv) sz (1 : Int32))) + (own_na (own_P [own_mean l0 nz, own_mean l1 nz, own_mean l2 nz, own_mean l3 nz, own_mean l4 nz] vv) sz (2 : Int32))) + (own_na (own_P [own_mean l0 nz, own_mean l1 nz, own_mean l2 nz, own_mean l3 nz, own_mean l4 nz] vv) sz (3 : Int32))) + (own_na (own_P [own_mean l0 nz, own_mean l1 nz, own_mean l2 nz, own_mean l3 nz, own_mean l4 nz] vv) sz (4 : Int32))))).2 kz) ?_
  show Go p e below _ T20 (mkF m 341 #[.val (.int xa), .val (.long gaps), .second, .val (.int sel), .val (.int xv), .val (.int sz), .val (.long l0), .second, .val (.long l1), .second, .val (.long l2), .second, .val (.long l3), .second, .val (.long l4), .second, .val (.int nz), .val (.ref b1), .val (.int (sel &&& (3 : Int32))), .val (.int kk), .val (.int stp), .val (.double vv), .second, .val (.ref b12), .val (.int (own_bs 6 (own_P [own_mean l0 nz, own_mean l1 nz, own_mean l2 nz, own_mean l3 nz, own_mean l4 nz] vv) 0 sz)), .val (.int (((((own_na (own_P [own_mean l0 nz, own_mean l1 nz, own_mean l2 nz, own_mean l3 nz, own_mean l4 nz] vv) sz (0 : Int32)) + (own_na (own_P [own_mean l0 nz, own_mean l1 nz, own_mean l2 nz, own_mean l3 nz, own_mean l4 nz] vv) sz (1 : Int32))) + (own_na (own_P [own_mean l0 nz, own_mean l1 nz, own_mean l2 nz, own_mean l3 nz, own_mean l4 nz] vv) sz (2 : Int32))) + (own_na (own_P [own_mean l0 nz, own_mean l1 nz, own_mean l2 nz, own_mean l3 nz, own_mean l4 nz] vv) sz (3 : Int32))) + (own_na (own_P [own_mean l0 nz, own_mean l1 nz, own_mean l2 nz, own_mean l3 nz, own_mean l4 nz] vv) sz (4 : Int32))))] [])
  refine Go.of (fun _ kz => XS.iconst X20.here hx rfl (hb hby at_341) kz) ?_
  show Go p e below _ T20 (mkF m 342 #[.val (.int xa), .val (.long gaps), .second, .val (.int sel), .val (.int xv), .val (.int sz), .val (.long l0), .second, .val (.long l1), .second, .val (.long l2), .second, .val (.long l3), .second, .val (.long l4), .second, .val (.int nz), .val (.ref b1), .val (.int (sel &&& (3 : Int32))), .val (.int kk), .val (.int stp), .val (.double vv), .second, .val (.ref b12), .val (.int (own_bs 6 (own_P [own_mean l0 nz, own_mean l1 nz, own_mean l2 nz, own_mean l3 nz, own_mean l4 nz] vv) 0 sz)), .val (.int (((((own_na (own_P [own_mean l0 nz, own_mean l1 nz, own_mean l2 nz, own_mean l3 nz, own_mean l4 nz] vv) sz (0 : Int32)) + (own_na (own_P [own_mean l0 nz, own_mean l1 nz, own_mean l2 nz, own_mean l3 nz, own_mean l4 nz] vv) sz (1 : Int32))) + (own_na (own_P [own_mean l0 nz, own_mean l1 nz, own_mean l2 nz, own_mean l3 nz, own_mean l4 nz] vv) sz (2 : Int32))) + (own_na (own_P [own_mean l0 nz, own_mean l1 nz, own_mean l2 nz, own_mean l3 nz, own_mean l4 nz] vv) sz (3 : Int32))) + (own_na (own_P [own_mean l0 nz, own_mean l1 nz, own_mean l2 nz, own_mean l3 nz, own_mean l4 nz] vv) sz (4 : Int32))))] [(.int (1 : Int32))])
  refine Go.of (fun _ kz => XS.goto X20.here hx rfl (pc0 := 342) (pc' := 346) rfl (hb hby at_342) (by decide) (by decide) kz) ?_
  show Go p e below _ T20 (mkF m 346 #[.val (.int xa), .val (.long gaps), .second, .val (.int sel), .val (.int xv), .val (.int sz), .val (.long l0), .second, .val (.long l1), .second, .val (.long l2), .second, .val (.long l3), .second, .val (.long l4), .second, .val (.int nz), .val (.ref b1), .val (.int (sel &&& (3 : Int32))), .val (.int kk), .val (.int stp), .val (.double vv), .second, .val (.ref b12), .val (.int (own_bs 6 (own_P [own_mean l0 nz, own_mean l1 nz, own_mean l2 nz, own_mean l3 nz, own_mean l4 nz] vv) 0 sz)), .val (.int (((((own_na (own_P [own_mean l0 nz, own_mean l1 nz, own_mean l2 nz, own_mean l3 nz, own_mean l4 nz] vv) sz (0 : Int32)) + (own_na (own_P [own_mean l0 nz, own_mean l1 nz, own_mean l2 nz, own_mean l3 nz, own_mean l4 nz] vv) sz (1 : Int32))) + (own_na (own_P [own_mean l0 nz, own_mean l1 nz, own_mean l2 nz, own_mean l3 nz, own_mean l4 nz] vv) sz (2 : Int32))) + (own_na (own_P [own_mean l0 nz, own_mean l1 nz, own_mean l2 nz, own_mean l3 nz, own_mean l4 nz] vv) sz (3 : Int32))) + (own_na (own_P [own_mean l0 nz, own_mean l1 nz, own_mean l2 nz, own_mean l3 nz, own_mean l4 nz] vv) sz (4 : Int32))))] [(.int (1 : Int32))])
  exact Go.retN X20 hx hlk (t := .boolean) hret (by simp) (hb hby at_346) (by decide) (by decide) ⟨rfl, N14⟩
set_option maxRecDepth 65536 in
set_option maxHeartbeats 40000000 in
theorem comes_1 {Post : Tables → Env → Array Value → State → Outcome → State → Prop} (hpost : ∀ tb e args s v u, (limb_1_1.after args s (.returned v) u = true ∧ limb_1_2.after args s (.returned v) u = true ∧ True) → FrameEnd s (.returned v) u (Jvm.fieldLocs frame_1_writes args s ++ Jvm.arrayLocs frame_1_arrays args s ++ Jvm.staticLocs frame_1_statics s) 16 128 → Post tb e args s (.returned v) u) :
    ArmFor flags0 classFile x code maxLocals ret World_1 tables_1 room_1 Calls_1 rest_1 Pre_1 Post := by
  intro l hfl _ _ p e ha hc hk s m args below hf hA hF happ hP
  obtain ⟨hcalls, hrest, hpre⟩ := hP
  obtain ⟨-, -, -, hnamed, -, -, -, hat⟩ := (Spec.applies_iff hf).mp happ
  obtain ⟨hg, hn⟩ := and_e (Cond.before_iff.mp (show (Jvm.Cond.and given_1 narrow_1).before args s = true from hpre))
  obtain ⟨g0, gg0⟩ := and_e hg
  obtain ⟨ga0, gg1⟩ := and_e gg0
  obtain ⟨ga1, gg2⟩ := and_e gg1
  obtain ⟨ga2, gg3⟩ := and_e gg2
  have ga3 := gg3
  obtain ⟨w0, w1, w2, w3, rfl⟩ : ∃ w0 w1 w2 w3 : Value, args = #[w0, w1, w2, w3] := by
    have hs : args.size = 4 := by simpa [Cond.value, given_1] using g0
    obtain ⟨L⟩ := args
    match L, hs with
    | [w0, w1, w2, w3], _ => exact ⟨w0, w1, w2, w3, rfl⟩
  have hw := fun d (hd : d ∈ tables_1) => atoms_spec (ws := Jvm.Cond.code x code maxLocals ret :: tables_1) hat d (List.mem_cons_of_mem _ hd)
  have hfit : Fit s := fun {y c} hc i hi => by
    obtain ⟨ha, rfl⟩ := Array.getElem?_eq_some_iff.mp hc
    have q := List.all_eq_true.mp ((Array.all_eq_true_iff_forall_mem.mp hF) _ (Array.getElem_mem ha)) i (List.mem_range.mpr hi)
    simpa [Array.getElem?_eq_getElem hi] using q
  obtain ⟨i0, ei0⟩ := is_v ga0
  obtain rfl : w0 = (.int i0) := Option.some.inj ei0
  obtain ⟨i1, ei1⟩ := isL_v ga1
  obtain rfl : w1 = (.long i1) := Option.some.inj ei1
  obtain ⟨i2, ei2⟩ := is_v ga2
  obtain rfl : w2 = (.int i2) := Option.some.inj ei2
  obtain ⟨i3, ei3⟩ := is_v ga3
  obtain rfl : w3 = (.int i3) := Option.some.inj ei3
  obtain ⟨n, o, h1, h2, h3, _, L, rfl, ⟨rfl, N⟩, hq⟩ := rm0 l s _ hw tables_1 i0 i1 i2 i3 s.heap p e ha hc hk s m _ below hf ((Spec.applies_iff_loose hf).mp happ).1 ⟨rfl, State.Warmed39.refl s, rfl⟩ trivial
  refine ⟨n, _, h1, h2, h3, hpost _ _ _ _ _ _ ⟨Cond.after_iff.mpr rfl, Cond.after_iff.mpr (eq_i res_at (Term.int_eval (1)) rfl), trivial⟩ ⟨hq.1, hq.2.1, (hq.2.2.sift fun y hy => Or.inr (N y hy)).mono (by decide) (by decide)⟩⟩
theorem main_1_1 : Claimed_1_1 := comes_1 fun _ _ _ _ _ _ h hF => ⟨h.1, hF⟩
theorem main_1_2 : Claimed_1_2 := comes_1 fun _ _ _ _ _ _ h hF => ⟨h.2.1, hF⟩
end Jvm.Pilot.@@N@@
namespace Jvm.Pilot.@@N@@
open Jvm Jvm.ClassFile Sem Op Lib Jvm.Free Jvm.Stand Jvm.Pilot.@@N@@.Jvm.D
/-! MADE BY PROGRAM (witnessworld.py) out of the Statement's table words and the real class files: 13 classes; the members and pool entries that the words name. The judged class is class 1, her method 1. -/
namespace start1
open Jvm.ClassFile
def u (s : String) : CpInfo := .utf8 (stringToUtf16 s)
/-- a pool by its gaps: so many unusable entries, then the entry; so many at the end -/
def gap : Nat → List CpInfo → List CpInfo
  | 0, r => r
  | n + 1, r => .unusable :: gap n r
def poolList (es : List (Nat × CpInfo)) (last : Nat) : List CpInfo := es.foldr (fun e r => gap e.1 (e.2 :: r)) (gap last [])
def pool (es : List (Nat × CpInfo)) (last : Nat) : Array CpInfo := ⟨poolList es last⟩
def fileOf (pool : Array CpInfo) (this : Nat) (attrs : Array Attribute := #[]) (ms : Array MethodInfo := #[]) (fl : Nat := 33) (sup : Nat := 0) (ifs : Array Nat := #[]) (fds : Array FieldInfo := #[]) : ClassFile where
  minorVersion := 0
  majorVersion := 65
  constantPool := pool
  accessFlags := fl
  thisClass := this
  superClass := sup
  interfaces := ifs
  fields := fds
  methods := ms
  attributes := attrs
def plain (name : String) (sup : Option ClassId) : Class where
  name := name
  kind := .ordinary
  loader := none
  accessFlags := 33
  super := sup
  interfaces := #[]
  cf := none
  fields := #[]
  methods := #[]
  instanceTypes := #[]
  staticTypes := #[]
  resolved := #[]
  callSites := []
  init := .initialized
  statics := none
  mirror := none

def pool0 : Array CpInfo := pool [(5, u "<init>"), (0, u "()V"), (1, .class_ 10), (1, u "java/lang/Object")] 113

def k0c0 : Code := { maxStack := 0, maxLocals := 1, code := object_method_1_code, exceptionTable := #[], attributes := #[] }
def k0m0 : Method := { name := "<init>", desc := "()V", sig := { parameters := [], returnType := none }, accessFlags := 1, code := some k0c0 }
/-- java/lang/Object -/
def k0 : Class := { plain "java/lang/Object" none with
  accessFlags := 33
  interfaces := #[]
  cf := some (fileOf pool0 8 #[] #[{ accessFlags := 1, nameIndex := 5, descriptorIndex := 6, attributes := #[] }] 33 0 #[] #[])
  fields := #[]
  methods := #[k0m0]
  instanceTypes := #[]
  staticTypes := #[]
  resolved := Array.replicate 124 none
  statics := none }

def pool1 : Array CpInfo := pool [(2, .class_ 4), (1, u "java/lang/Object"), (0, u "<init>"), (0, u "()V"), (0, .long 7), (1, .long 4095), (1, .methodref 12 13), (0, .class_ 14), (0, .nameAndType 15 16), (0, u "com/example/joulepath/joulepath/core/powerlog/SortedMeansFirstAbovePinLaw"), (0, u "mean"), (0, u "(JZ)D"), (0, .double 4602678819172646912), (1, .double 9223372036854775808), (1, .class_ 22), (0, u "com/example/joulepath/joulepath/core/powerlog/SortedMeans"), (0, .methodref 21 24), (0, .nameAndType 5 25), (0, u "([DI[J)V"), (0, .methodref 21 27), (0, .nameAndType 28 29), (0, u "firstAbove"), (0, u "(D)I"), (0, .methodref 12 31), (0, .nameAndType 32 33), (0, u "notAbove"), (0, u "([DIID)I"), (2, u "law"), (0, u "(IJII)Z")] 5

def k1m0 : Method := { name := "<init>", desc := "()V", sig := { parameters := [], returnType := none }, accessFlags := 1, code := none }
def k1c1 : Code := { maxStack := 6, maxLocals := 26, code := code, exceptionTable := #[], attributes := #[] }
def k1m1 : Method := { name := "law", desc := "(IJII)Z", sig := { parameters := [.int, .long, .int, .int], returnType := some .boolean }, accessFlags := 9, code := some k1c1 }
def k1c2 : Code := { maxStack := 4, maxLocals := 3, code := method_3_code, exceptionTable := #[], attributes := #[] }
def k1m2 : Method := { name := "mean", desc := "(JZ)D", sig := { parameters := [.long, .boolean], returnType := some .double }, accessFlags := 10, code := some k1c2 }
def k1c3 : Code := { maxStack := 4, maxLocals := 5, code := method_4_code, exceptionTable := #[], attributes := #[] }
def k1m3 : Method := { name := "notAbove", desc := "([DIID)I", sig := { parameters := [(.array .double), .int, .int, .double], returnType := some .int }, accessFlags := 10, code := some k1c3 }
/-- com/example/joulepath/joulepath/core/powerlog/SortedMeansFirstAbovePinLaw -/
def k1 : Class := { plain "com/example/joulepath/joulepath/core/powerlog/SortedMeansFirstAbovePinLaw" (some 0) with
  accessFlags := 49
  interfaces := #[]
  cf := some (fileOf pool1 12 #[] #[{ accessFlags := 1, nameIndex := 5, descriptorIndex := 6, attributes := #[] }, { accessFlags := 9, nameIndex := 36, descriptorIndex := 37, attributes := #[] }, { accessFlags := 10, nameIndex := 15, descriptorIndex := 16, attributes := #[] }, { accessFlags := 10, nameIndex := 32, descriptorIndex := 33, attributes := #[] }] 49 2 #[] #[])
  fields := #[]
  methods := #[k1m0, k1m1, k1m2, k1m3]
  instanceTypes := #[]
  staticTypes := #[]
  resolved := Array.replicate 43 none
  statics := none }

def pool2 : Array CpInfo := pool [(3, .methodref 4 5), (0, .class_ 6), (0, .nameAndType 7 8), (0, u "java/lang/Object"), (0, u "<init>"), (0, u "()V"), (0, .fieldref 10 11), (0, .class_ 12), (0, .nameAndType 13 14), (0, u "com/example/joulepath/joulepath/core/powerlog/SortedMeans"), (0, u "means"), (0, u "[D"), (0, .fieldref 10 16), (0, .nameAndType 17 18), (0, u "size"), (0, u "I"), (0, .fieldref 10 20), (0, .nameAndType 21 22), (0, u "before"), (0, u "[J"), (15, u "firstAbove"), (0, u "(D)I"), (4, .class_ 45), (0, u "com/example/joulepath/joulepath/core/powerlog/SortedMeans$Parted"), (3, u "LARGEST"), (0, u "D"), (1, u "([DI[J)V")] 14

def k2c0 : Code := { maxStack := 2, maxLocals := 4, code := prog_151_method_1_code, exceptionTable := #[], attributes := #[] }
def k2m0 : Method := { name := "<init>", desc := "([DI[J)V", sig := { parameters := [(.array .double), .int, (.array .long)], returnType := none }, accessFlags := 0, code := some k2c0 }
def k2c1 : Code := { maxStack := 4, maxLocals := 6, code := prog_151_method_4_code, exceptionTable := #[], attributes := #[] }
def k2m1 : Method := { name := "firstAbove", desc := "(D)I", sig := { parameters := [.double], returnType := some .int }, accessFlags := 0, code := some k2c1 }
/-- com/example/joulepath/joulepath/core/powerlog/SortedMeans -/
def k2 : Class := { plain "com/example/joulepath/joulepath/core/powerlog/SortedMeans" (some 0) with
  accessFlags := 48
  interfaces := #[]
  cf := some (fileOf pool2 10 #[.nestMembers #[44]] #[{ accessFlags := 0, nameIndex := 7, descriptorIndex := 52, attributes := #[] }, { accessFlags := 0, nameIndex := 38, descriptorIndex := 39, attributes := #[] }] 48 4 #[] #[{ accessFlags := 26, nameIndex := 49, descriptorIndex := 50, attributes := #[] }, { accessFlags := 18, nameIndex := 13, descriptorIndex := 14, attributes := #[] }, { accessFlags := 18, nameIndex := 17, descriptorIndex := 18, attributes := #[] }, { accessFlags := 18, nameIndex := 21, descriptorIndex := 22, attributes := #[] }])
  fields := #[{ name := "LARGEST", type := .double, accessFlags := 26, slot := 0, constantValue := 0 }, { name := "means", type := (.array .double), accessFlags := 18, slot := 0, constantValue := 0 }, { name := "size", type := .int, accessFlags := 18, slot := 1, constantValue := 0 }, { name := "before", type := (.array .long), accessFlags := 18, slot := 2, constantValue := 0 }]
  methods := #[k2m0, k2m1]
  instanceTypes := #[(.array .double), .int, (.array .long)]
  staticTypes := #[.double]
  resolved := Array.replicate 67 none
  statics := none }

def pool3 : Array CpInfo := pool [(1, u "java/lang/Cloneable"), (0, .class_ 1), (0, u "java/lang/Object"), (0, .class_ 3)] 3

/-- java/lang/Cloneable -/
def k3 : Class := { plain "java/lang/Cloneable" (some 0) with
  accessFlags := 1537
  interfaces := #[]
  cf := some (fileOf pool3 2 #[] #[] 1537 4 #[] #[])
  fields := #[]
  methods := #[]
  instanceTypes := #[]
  staticTypes := #[]
  resolved := Array.replicate 8 none
  statics := none }

def pool4 : Array CpInfo := pool [(1, u "java/io/Serializable"), (0, .class_ 1), (0, u "java/lang/Object"), (0, .class_ 3)] 3

/-- java/io/Serializable -/
def k4 : Class := { plain "java/io/Serializable" (some 0) with
  accessFlags := 1537
  interfaces := #[]
  cf := some (fileOf pool4 2 #[] #[] 1537 4 #[] #[])
  fields := #[]
  methods := #[]
  instanceTypes := #[]
  staticTypes := #[]
  resolved := Array.replicate 8 none
  statics := none }

/-- the primitive byte -/
def k5 : Class := { plain "byte" none with kind := .primitive 'B', accessFlags := 0x411 }
/-- [B -/
def k6 : Class := { plain "[B" (some 0) with kind := .array 5 .byte, interfaces := #[3, 4], accessFlags := 1041 }

/-- the primitive double -/
def k7 : Class := { plain "double" none with kind := .primitive 'D', accessFlags := 0x411 }
/-- [D -/
def k8 : Class := { plain "[D" (some 0) with kind := .array 7 .double, interfaces := #[3, 4], accessFlags := 1041 }

/-- the primitive int -/
def k9 : Class := { plain "int" none with kind := .primitive 'I', accessFlags := 0x411 }
/-- [I -/
def k10 : Class := { plain "[I" (some 0) with kind := .array 9 .int, interfaces := #[3, 4], accessFlags := 1041 }

/-- the primitive long -/
def k11 : Class := { plain "long" none with kind := .primitive 'J', accessFlags := 0x411 }
/-- [J -/
def k12 : Class := { plain "[J" (some 0) with kind := .array 11 .long, interfaces := #[3, 4], accessFlags := 1041 }

def heap : Heap := #[]
def classes : Array Class := #[k0, k1, k2, k3, k4, k5, k6, k7, k8, k9, k10, k11, k12]
def interned : List (Array UInt16 × Addr) := []
def slotsUsed : Nat := 0
def theMethod : MethodId := ⟨1, 1⟩
def args0 : Array Value := #[.int 5, .long 7, .int 3, .int 2]
def aboutOver (below : List Frame) : State where
  vm := { classes := classes, interned := interned.toArray }
  heap := heap
  slotsUsed := slotsUsed
  threads := #[{ frames := .invoking theMethod args0 :: below }]
def below0 : List Frame := [.native { method := ⟨0, 0⟩, args := #[] }]
def about1 : State := aboutOver below0
def p0 : Program := .bare "" "" ""
def e0 : Env := launch0.env 0 0 0
theorem w_frames : about1.frames = Frame.invoking theMethod args0 :: below0 := rfl
set_option maxRecDepth 65536 in
theorem w_args : argsFit about1.vm theMethod args0 = true := by decide +kernel
set_option maxRecDepth 65536 in
theorem w_heap : heapFits about1 = true := by decide +kernel
set_option maxRecDepth 65536 in
theorem w_runnable : about1.curStatus? = some .runnable := by decide +kernel
set_option maxRecDepth 65536 in
theorem w_alone : about1.alone = true := by decide +kernel
set_option maxRecDepth 65536 in
theorem w_named : about1.methodNamed? x = some theMethod := by decide +kernel
set_option maxRecDepth 65536 in
theorem w_hears : about1.hears theMethod below0 = true := by decide +kernel
set_option maxRecDepth 65536 in
theorem w_ripe : about1.ripe theMethod args0 below0 = true := by decide +kernel
theorem w_running : about1.status = .running := rfl
set_option maxRecDepth 65536 in
theorem w_room : about1.hasRoom e0.platform room_1 = true :=
  launch0.hasRoom_least _ room_1 (by decide +kernel) (by decide +kernel) (by decide +kernel) (by decide +kernel) (by decide +kernel) (by decide +kernel)
theorem allAtoms_all (ts : List Jvm.Cond) (a : Array Jvm.Value) (st : Jvm.State) : (allAtoms ts).before a st = ts.all (fun c => c.before a st) := by
  induction ts with
  | nil => rfl
  | cons c t ih =>
    show (Jvm.Cond.and c (allAtoms t)).before a st = _
    rw [Jvm.Cond.before_and, ih, List.all_cons]
def words1 : List Jvm.Cond := Jvm.Cond.code x code maxLocals ret :: tables_1
/-- a 'code' word, met by the world's own term for the bytes: nothing is compared byte by byte -/
theorem code_word {y : MethodName} {bytes : ByteArray} {mx : Nat} {rt : Option FieldType} {a : Array Value} {s : State} {m : MethodId} {meth : Method} {c : Code} (h1 : s.methodNamed? y = some m) (h2 : s.vm.method? m = some meth) (h3 : meth.code = some c) (h4 : c.code = bytes)
    (h5 : (c.maxLocals == mx && c.exceptionTable.isEmpty && decide (c.maxStack ≤ mostOperands) && decide (meth.sig.returnType = rt) && !meth.locks && decide (parseMethodDescriptor y.desc = some meth.sig)) = true) : (Jvm.Cond.code y bytes mx rt).before a s = true := by
  simp only [Bool.and_eq_true, beq_iff_eq, Bool.not_eq_true', decide_eq_true_eq] at h5
  obtain ⟨⟨⟨⟨⟨g1, g2⟩, g3⟩, g4⟩, g5⟩, g6⟩ := h5
  simp [Cond.before, Cond.holds, Cond.value, h1, h2, h3, h4, g1, g2, g3, g4, g5, g6]
def isCode : Jvm.Cond → Bool
  | .code _ _ _ _ => true
  | _ => false
theorem all_split {L : List Jvm.Cond} {P : Jvm.Cond → Bool} (h1 : L.all (fun c => isCode c || P c) = true) (h2 : ∀ c ∈ L.filter isCode, P c = true) : L.all P = true := by
  refine List.all_eq_true.mpr fun c hc => ?_
  have h := List.all_eq_true.mp h1 c hc
  rcases Bool.eq_false_or_eq_true (isCode c) with hi | hi
  · exact h2 c (List.mem_filter.mpr ⟨hc, hi⟩)
  · simpa [hi] using h
set_option maxRecDepth 65536 in
theorem w_c0 : (Jvm.Cond.code x code maxLocals ret).before args0 about1 = true := code_word (m := ⟨1, 1⟩) (meth := k1m1) (c := k1c1) (by decide +kernel) rfl rfl rfl (by decide +kernel)
set_option maxRecDepth 65536 in
theorem w_c1 : (Jvm.Cond.code ({ cls := "com/example/joulepath/joulepath/core/powerlog/SortedMeansFirstAbovePinLaw", name := "mean", desc := "(JZ)D" } : Jvm.MethodName) method_3_code (3 : Nat) (Option.some Jvm.ClassFile.FieldType.double)).before args0 about1 = true := code_word (m := ⟨1, 2⟩) (meth := k1m2) (c := k1c2) (by decide +kernel) rfl rfl rfl (by decide +kernel)
set_option maxRecDepth 65536 in
theorem w_c2 : (Jvm.Cond.code ({ cls := "com/example/joulepath/joulepath/core/powerlog/SortedMeans", name := "<init>", desc := "([DI[J)V" } : Jvm.MethodName) prog_151_method_1_code (4 : Nat) (Option.none : Option Jvm.ClassFile.FieldType)).before args0 about1 = true := code_word (m := ⟨2, 0⟩) (meth := k2m0) (c := k2c0) (by decide +kernel) rfl rfl rfl (by decide +kernel)
set_option maxRecDepth 65536 in
theorem w_c3 : (Jvm.Cond.code ({ cls := "java/lang/Object", name := "<init>", desc := "()V" } : Jvm.MethodName) object_method_1_code (1 : Nat) (Option.none : Option Jvm.ClassFile.FieldType)).before args0 about1 = true := code_word (m := ⟨0, 0⟩) (meth := k0m0) (c := k0c0) (by decide +kernel) rfl rfl rfl (by decide +kernel)
set_option maxRecDepth 65536 in
theorem w_c4 : (Jvm.Cond.code ({ cls := "com/example/joulepath/joulepath/core/powerlog/SortedMeans", name := "firstAbove", desc := "(D)I" } : Jvm.MethodName) prog_151_method_4_code (6 : Nat) (Option.some Jvm.ClassFile.FieldType.int)).before args0 about1 = true := code_word (m := ⟨2, 1⟩) (meth := k2m1) (c := k2c1) (by decide +kernel) rfl rfl rfl (by decide +kernel)
set_option maxRecDepth 65536 in
theorem w_c5 : (Jvm.Cond.code ({ cls := "com/example/joulepath/joulepath/core/powerlog/SortedMeansFirstAbovePinLaw", name := "notAbove", desc := "([DIID)I" } : Jvm.MethodName) method_4_code (5 : Nat) (Option.some Jvm.ClassFile.FieldType.int)).before args0 about1 = true := code_word (m := ⟨1, 3⟩) (meth := k1m3) (c := k1c3) (by decide +kernel) rfl rfl rfl (by decide +kernel)
def codes1 : List Jvm.Cond := [Jvm.Cond.code x code maxLocals ret, Jvm.Cond.code ({ cls := "com/example/joulepath/joulepath/core/powerlog/SortedMeansFirstAbovePinLaw", name := "mean", desc := "(JZ)D" } : Jvm.MethodName) method_3_code (3 : Nat) (Option.some Jvm.ClassFile.FieldType.double), Jvm.Cond.code ({ cls := "com/example/joulepath/joulepath/core/powerlog/SortedMeans", name := "<init>", desc := "([DI[J)V" } : Jvm.MethodName) prog_151_method_1_code (4 : Nat) (Option.none : Option Jvm.ClassFile.FieldType), Jvm.Cond.code ({ cls := "java/lang/Object", name := "<init>", desc := "()V" } : Jvm.MethodName) object_method_1_code (1 : Nat) (Option.none : Option Jvm.ClassFile.FieldType), Jvm.Cond.code ({ cls := "com/example/joulepath/joulepath/core/powerlog/SortedMeans", name := "firstAbove", desc := "(D)I" } : Jvm.MethodName) prog_151_method_4_code (6 : Nat) (Option.some Jvm.ClassFile.FieldType.int), Jvm.Cond.code ({ cls := "com/example/joulepath/joulepath/core/powerlog/SortedMeansFirstAbovePinLaw", name := "notAbove", desc := "([DIID)I" } : Jvm.MethodName) method_4_code (5 : Nat) (Option.some Jvm.ClassFile.FieldType.int)]
set_option maxRecDepth 65536 in
theorem codes_eq : words1.filter isCode = codes1 := rfl
theorem w_codes : ∀ c ∈ words1.filter isCode, c.before args0 about1 = true := by
  rw [codes_eq]
  intro c hc
  simp only [codes1, List.mem_cons, List.not_mem_nil, or_false] at hc
  rcases hc with rfl | rfl | rfl | rfl | rfl | rfl
  · exact w_c0
  · exact w_c1
  · exact w_c2
  · exact w_c3
  · exact w_c4
  · exact w_c5
set_option maxRecDepth 65536 in
theorem w_t1 : (words1.take 24).all (fun c => isCode c || c.before args0 about1) = true := by decide +kernel
set_option maxRecDepth 65536 in
theorem w_t2 : (words1.drop 24).all (fun c => isCode c || c.before args0 about1) = true := by decide +kernel
theorem w_tables : (allAtoms (Jvm.Cond.code x code maxLocals ret :: tables_1)).before args0 about1 = true := by
  rw [allAtoms_all]
  show words1.all (fun c => c.before args0 about1) = true
  refine all_split ?_ w_codes
  rw [← List.take_append_drop 24 words1, List.all_append, w_t1, w_t2]
  rfl
set_option maxRecDepth 65536 in
theorem w_case : (Jvm.Cond.and given_1 narrow_1).before args0 about1 = true := by decide +kernel
theorem w_applies : (headSpec (Jvm.Cond.code x code maxLocals ret :: tables_1) room_1).applies x e0.platform about1 = true :=
  (Spec.applies_iff w_frames).mpr ⟨w_running, w_runnable, w_alone, w_named, w_hears, w_ripe, w_room, w_tables⟩
theorem atStart : AtStart classFile x code maxLocals ret World_1 tables_1 room_1 Calls_1 rest_1 Pre_1 launch0 p0 e0 about1 theMethod args0 below0 :=
  ⟨lists_1, trivial, launch0.admits_env _ _ _, launch0.least_env, fairChoices_fair.cas, fairChoices_fair.clock, w_frames, w_args, w_heap, w_applies, trivial, trivial, w_case⟩
end start1
theorem witness_1 : WitnessClaimed_1 := ⟨start1.p0, start1.e0, start1.about1, start1.theMethod, start1.args0, start1.below0, start1.atStart⟩
end Jvm.Pilot.@@N@@
