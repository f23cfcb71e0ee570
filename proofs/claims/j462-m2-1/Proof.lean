import JvmDerived
import JvmDerived.Pilot.@@N@@Statement
import JvmDerived.Pilot.@@N@@Code
set_option linter.unusedVariables false
set_option linter.unusedSimpArgs false
namespace Jvm.Free.XS
/-- lcmp's int; iushr's int -/
def cmpL (x y : Int64) : Int32 := if x > y then 1 else if x = y then 0 else -1
def ushr (x y : Int32) : Int32 := (x.toUInt32 >>> (y &&& 31).toUInt32).toInt32
end Jvm.Free.XS
@@BLOCK:NumsL.lean.txt@@
namespace Jvm.RoadKit
open Sem ClassFile Op Lib Jvm.Stand Jvm.Free Jvm.LawKit
section Going
variable {p : Program} {l : Launch} {e : Env} {R : Room} {s : State} {m : MethodId} {args : Array Value} {below : List Frame} {meth : Method} {c : Code} {T T' : State} {locs : List Loc} {cells slots : Nat} {K N : Nat} {Q : Option Value → Heap → List Loc → Prop} {F : Option Value → State → Prop} {g g' : JFrame} {Z : State} {a0 : Array Value} {h : Heap}
/-- from this frame the run comes to the method's return, with what F says of the value and the end -/
def Go (p : Program) (e : Env) (below : List Frame) (F : Option Value → State → Prop) (T : State) (g : JFrame) : Prop :=
  ∃ s₂ o, Steps p.tables e below (T.setTop g) s₂ ∧ s₂.status = .running ∧ Ended s₂ below o ∧ ∃ v, o = .returned v ∧ F v s₂
/-- what is said of an end: Q of the value, the heap and the places written; and the frame -/
def GoEnd (s : State) (K N : Nat) (Q : Option Value → Heap → List Loc → Prop) (v : Option Value) (t : State) : Prop := ∃ L, Q v t.heap L ∧ FrameEnd s (.returned v) t L K N
theorem Go.of (q : ∀ t, Steps p.tables e below (T'.setTop g') t → Steps p.tables e below (T.setTop g) t) (k : Go p e below F T' g') : Go p e below F T g := by
  obtain ⟨s₂, o, h1, r⟩ := k; exact ⟨s₂, o, q _ h1, r⟩
theorem Go.via (q : Steps p.tables e below (T.setTop g) (T'.setTop g')) (k : Go p e below F T' g') : Go p e below F T g := Go.of (fun _ r => q.trans r) k
theorem Go.cast (q : g = g') (k : Go p e below F T g') : Go p e below F T g := q ▸ k
/-- a body's contract out of its walk -/
theorem goBody {y : MethodName} {bytes : ByteArray} {maxL : Nat} {ret : Option FieldType} {ws : List Cond} {rm : Room} {as' : Array Value} (hp : plainFor y = true)
    (body : ∀ p e s m below meth c s₁, p.tables.exec = Jvm.exec → Z.Warmed39 s.vm → c.code = bytes → c.maxLocals = maxL → s.vm.findClass y.cls = some m.cls → meth.name = y.name → meth.sig.returnType = ret → meth.locks = false →
      Stand p l e rm s m as' below meth c s₁ [] 0 0 → s₁.heap = h → Go p e below (GoEnd s rm.cells rm.slots Q) s₁ (entryFrame m as' maxL)) :
    MetFree l y (head1 (Cond.code y bytes maxL ret :: ws) rm) (fun a U => a = as' ∧ Z.Warmed39 U.vm ∧ U.heap = h) (fun _ _ _ _ _ => True) (fun _ U o U' => ∃ v L, o = .returned v ∧ Q v U'.heap L ∧ FrameEnd U o U' L rm.cells rm.slots) := by
  refine MetFree.of_bodySF hp hisR ?_
  intro p e s m args below meth c s₁ Bd hml hP hK
  obtain ⟨rfl, hZ, hh⟩ := hP
  obtain ⟨s₂, o, h1, h2, h3, v, rfl, L, h4, h5⟩ := body p e s m below meth c s₁ Bd.exec hZ Bd.bytes hml (findClass_of_methodNamed Bd.named) (name_of_methodNamed Bd.named Bd.method).1 Bd.returns Bd.notSynchronized (Stand.of_body Bd) (by rw [← hh, Bd.state]; rfl)
  exact ⟨s₂, _, h1, h2, h3, v, L, rfl, h4, h5⟩
theorem Go.retI (X : Stand p l e R s m args below meth c T locs cells slots) (hx : p.tables.exec = Jvm.exec) (hlk : meth.locks = false) {pc : Nat} {Ls : Array Slot} {z : Int32} {rest : List Value} (hret : meth.sig.returnType = some .int) (hd : decode c.code pc = .ok (.ireturn, 1)) (hK : cells ≤ K) (hN : slots ≤ N) (hq : Q (some (.int z)) T.heap locs) : Go p e below (GoEnd s K N Q) T (mkF m pc Ls (.int z :: rest)) := by
  obtain ⟨fs, hr, hrun, hended, hW, hsame⟩ := X.leave (v := some (.int z)) (fun h => by rw [hret] at h; cases h) hlk
  exact ⟨_, _, retOut X hx (t := .int) (i := .ireturn) hret rfl (Or.inl ⟨rfl, Or.inl rfl, z, rfl⟩) hd hr, hrun, hended, _, rfl, _, hq, ⟨_, rfl⟩, hW, hsame.mono hK hN⟩
theorem Go.retN (X : Stand p l e R s m args below meth c T locs cells slots) (hx : p.tables.exec = Jvm.exec) (hlk : meth.locks = false) {pc : Nat} {Ls : Array Slot} {z : Int32} {t : FieldType} {rest : List Value} (hret : meth.sig.returnType = some t) (ht : t = .boolean ∨ t = .byte ∨ t = .char ∨ t = .short) (hd : decode c.code pc = .ok (.ireturn, 1)) (hK : cells ≤ K) (hN : slots ≤ N) (hq : Q (some (.int (nar t z))) T.heap locs) : Go p e below (GoEnd s K N Q) T (mkF m pc Ls (.int z :: rest)) := by
  obtain ⟨fs, hr, hrun, hended, hW, hsame⟩ := X.leave (v := some (.int (nar t z))) (fun h => by rw [hret] at h; cases h) hlk
  exact ⟨_, _, Jvm.RoadKit.retN X hx (t := t) hret ht hd hr, hrun, hended, _, rfl, _, hq, ⟨_, rfl⟩, hW, hsame.mono hK hN⟩
theorem Go.retJ (X : Stand p l e R s m args below meth c T locs cells slots) (hx : p.tables.exec = Jvm.exec) (hlk : meth.locks = false) {pc : Nat} {Ls : Array Slot} {z : Int64} {rest : List Value} (hret : meth.sig.returnType = some .long) (hd : decode c.code pc = .ok (.lreturn, 1)) (hK : cells ≤ K) (hN : slots ≤ N) (hq : Q (some (.long z)) T.heap locs) : Go p e below (GoEnd s K N Q) T (mkF m pc Ls (.long z :: rest)) := by
  obtain ⟨fs, hr, hrun, hended, hW, hsame⟩ := X.leave (v := some (.long z)) (fun h => by rw [hret] at h; cases h) hlk
  exact ⟨_, _, retOut X hx (t := .long) (i := .lreturn) hret rfl (Or.inr (Or.inl ⟨rfl, rfl, z, rfl⟩)) hd hr, hrun, hended, _, rfl, _, hq, ⟨_, rfl⟩, hW, hsame.mono hK hN⟩
theorem Go.retD (X : Stand p l e R s m args below meth c T locs cells slots) (hx : p.tables.exec = Jvm.exec) (hlk : meth.locks = false) {pc : Nat} {Ls : Array Slot} {z : UInt64} {rest : List Value} (hret : meth.sig.returnType = some .double) (hd : decode c.code pc = .ok (.dreturn, 1)) (hK : cells ≤ K) (hN : slots ≤ N) (hq : Q (some (.double z)) T.heap locs) : Go p e below (GoEnd s K N Q) T (mkF m pc Ls (.double z :: rest)) := by
  obtain ⟨fs, hr, hrun, hended, hW, hsame⟩ := X.leave (v := some (.double z)) (fun h => by rw [hret] at h; cases h) hlk
  exact ⟨_, _, retOut X hx (t := .double) (i := .dreturn) hret rfl (Or.inr (Or.inr (Or.inl ⟨rfl, rfl, z, rfl⟩))) hd hr, hrun, hended, _, rfl, _, hq, ⟨_, rfl⟩, hW, hsame.mono hK hN⟩
theorem Go.retA (X : Stand p l e R s m args below meth c T locs cells slots) (hx : p.tables.exec = Jvm.exec) (hlk : meth.locks = false) {pc : Nat} {Ls : Array Slot} {v : Value} {t : FieldType} {rest : List Value} (hret : meth.sig.returnType = some t) (ht : t.isReference = true) (hv : v.isRef = true) (hn : narrow t v = v) (hd : decode c.code pc = .ok (.areturn, 1)) (hK : cells ≤ K) (hN : slots ≤ N) (hq : Q (some v) T.heap locs) : Go p e below (GoEnd s K N Q) T (mkF m pc Ls (v :: rest)) := by
  obtain ⟨fs, hr, hrun, hended, hW, hsame⟩ := X.leave (v := some v) (fun h => by rw [hret] at h; cases h) hlk
  exact ⟨_, _, retOut X hx (t := t) (i := .areturn) hret hn (Or.inr (Or.inr (Or.inr (Or.inr ⟨rfl, ht, hv⟩)))) hd hr, hrun, hended, _, rfl, _, hq, ⟨_, rfl⟩, hW, hsame.mono hK hN⟩
theorem Go.retV (X : Stand p l e R s m args below meth c T locs cells slots) (hx : p.tables.exec = Jvm.exec) (hlk : meth.locks = false) {pc : Nat} {Ls : Array Slot} (hret : meth.sig.returnType = none) (hd : decode c.code pc = .ok (.return_, 1)) (hK : cells ≤ K) (hN : slots ≤ N) (hq : Q none T.heap locs) : Go p e below (GoEnd s K N Q) T (mkF m pc Ls []) := by
  obtain ⟨fs, hr, hrun, hended, hW, hsame⟩ := X.leave (v := none) (fun _ => rfl) hlk
  exact ⟨_, _, X.returnOut hx hret hd hr, hrun, hended, _, rfl, _, hq, ⟨_, rfl⟩, hW, hsame.mono hK hN⟩
/-- what a callee that writes and makes nothing leaves -/
def PQ (h : Heap) (r : Option Value) (v : Option Value) (h' : Heap) (L : List Loc) : Prop := v = r ∧ L = [] ∧ h' = h
/-- a contract in the form in which a call takes it -/
abbrev MetAt (l : Launch) (Z : State) (y : MethodName) (bytes : ByteArray) (maxL : Nat) (ret : Option FieldType) (rm : Room) (as' : Array Value) (h : Heap) (Q : Option Value → Heap → List Loc → Prop) : Prop :=
  MetFree l y (head1 [Cond.code y bytes maxL ret] rm) (fun a U => a = as' ∧ Z.Warmed39 U.vm ∧ U.heap = h) (fun _ _ _ _ _ => True) (fun _ U o U' => ∃ v L, o = .returned v ∧ Q v U'.heap L ∧ FrameEnd U o U' L rm.cells rm.slots)
variable {own : String} {index : Nat} {y z : MethodName} {bytes : ByteArray} {maxL W pc : Nat} {ret : Option FieldType} {rm : Room} {Qc : Option Value → Heap → List Loc → Prop} {argsL rest st : List Value} {Ls : Array Slot}
theorem Go.callS (X : Stand p l e R s m args below meth c T locs cells slots) (hx : p.tables.exec = Jvm.exec) (hZ : Z.Warmed39 s.vm) (hown : s.vm.findClass own = some m.cls)
    (wl : (Cond.methodLink own index y).before a0 Z = true) (ws : (Cond.static y).before a0 Z = true) (wz : (Cond.initialized y.cls).before a0 Z = true) (wc : (Cond.code y bytes maxL ret).before a0 Z = true)
    (hy : y.cls ≠ "java/lang/invoke/MethodHandle" ∧ y.cls ≠ "java/lang/invoke/VarHandle") (hM : MetAt l Z y bytes maxL ret rm argsL.toArray h Qc) (eT : T.heap = h) (hsize : Ls.size = c.maxLocals)
    (hlen : ∀ sig, parseMethodDescriptor y.desc = some sig → argsL.length = sig.parameters.length) (hd : decode c.code pc = .ok (.invokestatic index, 3)) (hst : st = argsL.reverse ++ rest)
    (hW : (rest.map fun v => v.category).sum ≤ W) (hf : rm.frames + 1 ≤ R.frames) (hl : W + (maxL + 11) + rm.locals ≤ R.locals) (hc : cells + rm.cells ≤ R.cells) (hs : slots + rm.slots ≤ R.slots)
    (k : ∀ v T' L', Stand p l e R s m args below meth c T' (locs ++ L') (cells + rm.cells) (slots + rm.slots) → Qc v T'.heap L' → Go p e below F T' (mkF m (pc + 3) Ls (v.toList ++ rest))) : Go p e below F T (mkF m pc Ls st) := by
  obtain ⟨v, vm₁, ⟨T', L', k', n'⟩, -, X', ⟨Lc, hQ, l1, y1, z1⟩, stp⟩ := Jvm.LawKit.callS X hx hown (mvT hZ wl) (mvT hZ ws) (mvT hZ wz) (mvT hZ wc) hy (backOf (W := W) hM hZ wc wz hf hl) (g := mkF m pc Ls st) rfl hsize hlen hst (by show 2 * 0 + _ ≤ _; omega) hd (fun _ _ => ⟨rfl, eT, hc, hs⟩)
  dsimp only [Pt.U, Pt.locs, Pt.cells, Pt.slots] at X' l1 y1 z1 stp hQ
  subst l1 y1 z1
  exact Go.of stp (k v T' Lc X' hQ)
theorem Go.callSP (X : Stand p l e R s m args below meth c T locs cells slots) (hx : p.tables.exec = Jvm.exec) (hZ : Z.Warmed39 s.vm) (hown : s.vm.findClass own = some m.cls)
    (wl : (Cond.methodLink own index y).before a0 Z = true) (ws : (Cond.static y).before a0 Z = true) (wz : (Cond.initialized y.cls).before a0 Z = true) (wc : (Cond.code y bytes maxL ret).before a0 Z = true)
    (hy : y.cls ≠ "java/lang/invoke/MethodHandle" ∧ y.cls ≠ "java/lang/invoke/VarHandle") {r : Option Value} {fr lo : Nat} (hM : MetAt l Z y bytes maxL ret { frames := fr, cells := 0, slots := 0, locals := lo } argsL.toArray h (PQ h r)) (eT : T.heap = h) (hsize : Ls.size = c.maxLocals)
    (hlen : ∀ sig, parseMethodDescriptor y.desc = some sig → argsL.length = sig.parameters.length) (hd : decode c.code pc = .ok (.invokestatic index, 3)) (hst : st = argsL.reverse ++ rest)
    (hW : (rest.map fun v => v.category).sum ≤ W) (hf : fr + 1 ≤ R.frames) (hl : W + (maxL + 11) + lo ≤ R.locals) (hc : cells ≤ R.cells) (hs : slots ≤ R.slots)
    (k : ∀ T', Stand p l e R s m args below meth c T' locs cells slots → T'.heap = h → Go p e below F T' (mkF m (pc + 3) Ls (r.toList ++ rest))) : Go p e below F T (mkF m pc Ls st) := by
  refine Go.callS X hx hZ hown wl ws wz wc hy hM eT hsize hlen hd hst hW hf hl hc hs fun v T' L' X' q => ?_
  obtain ⟨rfl, rfl, e'⟩ := q
  rw [List.append_nil] at X'
  exact k T' X' e'
theorem Go.callI (X : Stand p l e R s m args below meth c T locs cells slots) (hx : p.tables.exec = Jvm.exec) (hZ : Z.Warmed39 s.vm) (hy1 : y.name = "<init>") (hown : s.vm.findClass own = some m.cls)
    (wl : (Cond.methodLink own index y).before a0 Z = true) (wi : (Cond.instanceMethod y).before a0 Z = true) (wz : (Cond.initialized y.cls).before a0 Z = true) (wc : (Cond.code y bytes maxL none).before a0 Z = true)
    (hy : y.cls ≠ "java/lang/invoke/MethodHandle" ∧ y.cls ≠ "java/lang/invoke/VarHandle") {a : Addr} (hM : MetAt l Z y bytes maxL none rm (.ref a :: argsL).toArray h Qc) (eT : T.heap = h) (hsize : Ls.size = c.maxLocals)
    (hlen : ∀ sig, parseMethodDescriptor y.desc = some sig → argsL.length = sig.parameters.length) (hd : decode c.code pc = .ok (.invokespecial index, 3)) (hst : st = argsL.reverse ++ .ref a :: rest)
    (hW : (rest.map fun v => v.category).sum ≤ W) (hf : rm.frames + 1 ≤ R.frames) (hl : W + (maxL + 11) + rm.locals ≤ R.locals) (hc : cells + rm.cells ≤ R.cells) (hs : slots + rm.slots ≤ R.slots)
    (k : ∀ v T' L', Stand p l e R s m args below meth c T' (locs ++ L') (cells + rm.cells) (slots + rm.slots) → Qc v T'.heap L' → Go p e below F T' (mkF m (pc + 3) Ls (v.toList ++ rest))) : Go p e below F T (mkF m pc Ls st) := by
  obtain ⟨v, vm₁, ⟨T', L', k', n'⟩, -, X', ⟨Lc, hQ, l1, y1, z1⟩, stp⟩ := X.specialBack hx hy1 hown (mvT hZ wl) (mvT hZ wi) (mvT hZ wc) hy (backOf (W := W) hM hZ wc wz hf hl) (g := mkF m pc Ls st) rfl hsize (Steps.refl _) (a := a) hlen hst (by show 2 * 0 + _ ≤ _; omega) hd (fun _ _ => ⟨rfl, eT, hc, hs⟩)
  dsimp only [Pt.U, Pt.locs, Pt.cells, Pt.slots] at X' l1 y1 z1 stp hQ
  subst l1 y1 z1
  exact Go.via stp (k v T' Lc X' hQ)
theorem Go.callV (X : Stand p l e R s m args below meth c T locs cells slots) (hx : p.tables.exec = Jvm.exec) (hZ : Z.Warmed39 s.vm) (hown : s.vm.findClass own = some m.cls) {C : String}
    (wl : (Cond.methodLink own index y).before a0 Z = true) (wd : (Cond.declares y).before a0 Z = true) (hnf : NotFace s y) (wse : (Cond.selects C y z).before a0 Z = true) (wi : (Cond.instanceMethod z).before a0 Z = true) (wz : (Cond.initialized z.cls).before a0 Z = true) (wc : (Cond.code z bytes maxL ret).before a0 Z = true)
    (hy : y.cls ≠ "java/lang/invoke/MethodHandle" ∧ y.cls ≠ "java/lang/invoke/VarHandle") {a : Addr} (hM : MetAt l Z z bytes maxL ret rm (.ref a :: argsL).toArray h Qc) (eT : T.heap = h) (hE : Exa Z h a C) (hsize : Ls.size = c.maxLocals)
    (hlen : ∀ sig, parseMethodDescriptor y.desc = some sig → argsL.length = sig.parameters.length) (hd : decode c.code pc = .ok (.invokevirtual index, 3)) (hst : st = argsL.reverse ++ .ref a :: rest)
    (hW : (rest.map fun v => v.category).sum ≤ W) (hf : rm.frames + 1 ≤ R.frames) (hl : W + (maxL + 11) + rm.locals ≤ R.locals) (hc : cells + rm.cells ≤ R.cells) (hs : slots + rm.slots ≤ R.slots)
    (k : ∀ v T' L', Stand p l e R s m args below meth c T' (locs ++ L') (cells + rm.cells) (slots + rm.slots) → Qc v T'.heap L' → Go p e below F T' (mkF m (pc + 3) Ls (v.toList ++ rest))) : Go p e below F T (mkF m pc Ls st) := by
  obtain ⟨cq, kq, q1, q2, q3⟩ := isOf hZ eT hE
  obtain ⟨v, vm₁, ⟨T', L', k', n'⟩, -, X', ⟨Lc, hQ, l1, y1, z1⟩, stp⟩ := X.virtualBack hx (y := y) (z := z) hown (mvT hZ wl) (mvT hZ wd) hnf (mvT hZ wse) (mvT hZ wi) hy (backOf (W := W) hM hZ wc wz hf hl) q1 q3 (g := mkF m pc Ls st) rfl hsize (Steps.refl _) hlen hst (by show 2 * 0 + _ ≤ _; omega) hd (fun _ _ => ⟨rfl, eT, hc, hs⟩)
  dsimp only [Pt.U, Pt.locs, Pt.cells, Pt.slots] at X' l1 y1 z1 stp hQ
  subst l1 y1 z1
  exact Go.via stp (k v T' Lc X' hQ)
theorem Go.callVP (X : Stand p l e R s m args below meth c T locs cells slots) (hx : p.tables.exec = Jvm.exec) (hZ : Z.Warmed39 s.vm) (hown : s.vm.findClass own = some m.cls) {C : String}
    (wl : (Cond.methodLink own index y).before a0 Z = true) (wd : (Cond.declares y).before a0 Z = true) (hnf : NotFace s y) (wse : (Cond.selects C y z).before a0 Z = true) (wi : (Cond.instanceMethod z).before a0 Z = true) (wz : (Cond.initialized z.cls).before a0 Z = true) (wc : (Cond.code z bytes maxL ret).before a0 Z = true)
    (hy : y.cls ≠ "java/lang/invoke/MethodHandle" ∧ y.cls ≠ "java/lang/invoke/VarHandle") {a : Addr} {r : Option Value} {fr lo : Nat} (hM : MetAt l Z z bytes maxL ret { frames := fr, cells := 0, slots := 0, locals := lo } (.ref a :: argsL).toArray h (PQ h r)) (eT : T.heap = h) (hE : Exa Z h a C) (hsize : Ls.size = c.maxLocals)
    (hlen : ∀ sig, parseMethodDescriptor y.desc = some sig → argsL.length = sig.parameters.length) (hd : decode c.code pc = .ok (.invokevirtual index, 3)) (hst : st = argsL.reverse ++ .ref a :: rest)
    (hW : (rest.map fun v => v.category).sum ≤ W) (hf : fr + 1 ≤ R.frames) (hl : W + (maxL + 11) + lo ≤ R.locals) (hc : cells ≤ R.cells) (hs : slots ≤ R.slots)
    (k : ∀ T', Stand p l e R s m args below meth c T' locs cells slots → T'.heap = h → Go p e below F T' (mkF m (pc + 3) Ls (r.toList ++ rest))) : Go p e below F T (mkF m pc Ls st) := by
  refine Go.callV X hx hZ hown wl wd hnf wse wi wz wc hy hM eT hE hsize hlen hd hst hW hf hl hc hs fun v T' L' X' q => ?_
  obtain ⟨rfl, rfl, e'⟩ := q
  rw [List.append_nil] at X'
  exact k T' X' e'
theorem Go.callIP (X : Stand p l e R s m args below meth c T locs cells slots) (hx : p.tables.exec = Jvm.exec) (hZ : Z.Warmed39 s.vm) (hy1 : y.name = "<init>") (hown : s.vm.findClass own = some m.cls)
    (wl : (Cond.methodLink own index y).before a0 Z = true) (wi : (Cond.instanceMethod y).before a0 Z = true) (wz : (Cond.initialized y.cls).before a0 Z = true) (wc : (Cond.code y bytes maxL none).before a0 Z = true)
    (hy : y.cls ≠ "java/lang/invoke/MethodHandle" ∧ y.cls ≠ "java/lang/invoke/VarHandle") {a : Addr} {fr lo : Nat} (hM : MetAt l Z y bytes maxL none { frames := fr, cells := 0, slots := 0, locals := lo } (.ref a :: argsL).toArray h (PQ h none)) (eT : T.heap = h) (hsize : Ls.size = c.maxLocals)
    (hlen : ∀ sig, parseMethodDescriptor y.desc = some sig → argsL.length = sig.parameters.length) (hd : decode c.code pc = .ok (.invokespecial index, 3)) (hst : st = argsL.reverse ++ .ref a :: rest)
    (hW : (rest.map fun v => v.category).sum ≤ W) (hf : fr + 1 ≤ R.frames) (hl : W + (maxL + 11) + lo ≤ R.locals) (hc : cells ≤ R.cells) (hs : slots ≤ R.slots)
    (k : ∀ T', Stand p l e R s m args below meth c T' locs cells slots → T'.heap = h → Go p e below F T' (mkF m (pc + 3) Ls rest)) : Go p e below F T (mkF m pc Ls st) := by
  refine Go.callI X hx hZ hy1 hown wl wi wz wc hy hM eT hsize hlen hd hst hW hf hl hc hs fun v T' L' X' q => ?_
  obtain ⟨rfl, rfl, e'⟩ := q
  rw [List.append_nil] at X'
  exact k T' X' e'
end Going
end Jvm.RoadKit
namespace Jvm.RoadKit
open Sem ClassFile Op Lib Jvm.Stand Jvm.Free Jvm.LawKit
section Heaping
variable {p : Program} {l : Launch} {e : Env} {R : Room} {s : State} {m : MethodId} {args : Array Value} {below : List Frame} {meth : Method} {c : Code} {T : State} {locs : List Loc} {cells slots : Nat} {Fi : Option Value → State → Prop} {Z : State} {a0 : Array Value} {h : Heap} {a : Addr} {k : ClassId} {ty : FieldType} {z j x : Int32} {vs rest st : List Value} {dv v : Value} {pc : Nat} {Ls : Array Slot} {own C O n d host : String} {index nn : Nat}
theorem Arv.load (F : Arv Z h a k ty z vs dv) (hj : ¬ j < 0 ∧ j < z) : ∃ cl, Arr Z h a cl ty ∧ ¬ (j < 0 ∨ cl.slots.size ≤ j.toNatClampNeg) ∧ cl.slots[j.toNatClampNeg]? = some (vs.getD j.toNatClampNeg dv) := by
  obtain ⟨cl, A, -, S, -, H, -⟩ := F
  exact ⟨cl, A, inb_of S hj, H.at (inb_of S hj) rfl⟩
theorem Go.iaload (X : Stand p l e R s m args below meth c T locs cells slots) (hx : p.tables.exec = Jvm.exec) (hZ : Z.Warmed39 s.vm) (eT : T.heap = h) (F : Arv Z h a k .int z vs dv) (hj : ¬ j < 0 ∧ j < z) (hv : vs.getD j.toNatClampNeg dv = v) (hd : decode c.code pc = .ok (.iaload, 1)) (kk : Go p e below Fi T (mkF m (pc + 1) Ls (v :: rest))) : Go p e below Fi T (mkF m pc Ls (.int j :: .ref a :: rest)) := by
  obtain ⟨cl, A, i1, i2⟩ := F.load hj
  rw [hv] at i2
  exact Go.of (fun t q => X.iaload hx (by rw [eT]; exact A.1) (State.isArrayOf_alike hZ.alike A.2.1) A.2.2 i1 i2 (g := mkF m pc Ls (.int j :: .ref a :: rest)) rfl rfl hd t q) kk
theorem Go.laload (X : Stand p l e R s m args below meth c T locs cells slots) (hx : p.tables.exec = Jvm.exec) (hZ : Z.Warmed39 s.vm) (eT : T.heap = h) (F : Arv Z h a k .long z vs dv) (hj : ¬ j < 0 ∧ j < z) (hv : vs.getD j.toNatClampNeg dv = v) (hd : decode c.code pc = .ok (.laload, 1)) (kk : Go p e below Fi T (mkF m (pc + 1) Ls (v :: rest))) : Go p e below Fi T (mkF m pc Ls (.int j :: .ref a :: rest)) := by
  obtain ⟨cl, A, i1, i2⟩ := F.load hj
  rw [hv] at i2
  exact Go.of (fun t q => X.laload hx (by rw [eT]; exact A.1) (State.isArrayOf_alike hZ.alike A.2.1) A.2.2 i1 i2 (g := mkF m pc Ls (.int j :: .ref a :: rest)) rfl rfl hd t q) kk
theorem Go.baload (X : Stand p l e R s m args below meth c T locs cells slots) (hx : p.tables.exec = Jvm.exec) (hZ : Z.Warmed39 s.vm) (eT : T.heap = h) (F : Arv Z h a k .byte z vs dv) (hj : ¬ j < 0 ∧ j < z) (hv : vs.getD j.toNatClampNeg dv = v) (hd : decode c.code pc = .ok (.baload, 1)) (kk : Go p e below Fi T (mkF m (pc + 1) Ls (v :: rest))) : Go p e below Fi T (mkF m pc Ls (.int j :: .ref a :: rest)) := by
  obtain ⟨cl, A, i1, i2⟩ := F.load hj
  rw [hv] at i2
  exact Go.of (fun t q => X.baloadBytes hx (by rw [eT]; exact A.1) (State.isArrayOf_alike hZ.alike A.2.1) A.2.2 i1 i2 (g := mkF m pc Ls (.int j :: .ref a :: rest)) rfl rfl hd t q) kk
theorem Go.caload (X : Stand p l e R s m args below meth c T locs cells slots) (hx : p.tables.exec = Jvm.exec) (hZ : Z.Warmed39 s.vm) (eT : T.heap = h) (F : Arv Z h a k .char z vs dv) (hj : ¬ j < 0 ∧ j < z) (hv : vs.getD j.toNatClampNeg dv = v) (hd : decode c.code pc = .ok (.caload, 1)) (kk : Go p e below Fi T (mkF m (pc + 1) Ls (v :: rest))) : Go p e below Fi T (mkF m pc Ls (.int j :: .ref a :: rest)) := by
  obtain ⟨cl, A, i1, i2⟩ := F.load hj
  rw [hv] at i2
  exact Go.of (fun t q => X.caload hx (by rw [eT]; exact A.1) (State.isArrayOf_alike hZ.alike A.2.1) A.2.2 i1 i2 (g := mkF m pc Ls (.int j :: .ref a :: rest)) rfl rfl hd t q) kk
theorem Go.aaload (X : Stand p l e R s m args below meth c T locs cells slots) (hx : p.tables.exec = Jvm.exec) (hZ : Z.Warmed39 s.vm) (eT : T.heap = h) (F : Arv Z h a k ty z vs dv) (hty : ty.isReference = true) (hj : ¬ j < 0 ∧ j < z) (hv : vs.getD j.toNatClampNeg dv = v) (hd : decode c.code pc = .ok (.aaload, 1)) (kk : Go p e below Fi T (mkF m (pc + 1) Ls (v :: rest))) : Go p e below Fi T (mkF m pc Ls (.int j :: .ref a :: rest)) := by
  obtain ⟨cl, A, i1, i2⟩ := F.load hj
  rw [hv] at i2
  exact Go.of (fun t q => X.aaload hx (by rw [eT]; exact A.1) (State.isArrayOf_alike hZ.alike A.2.1) hty A.2.2 i1 i2 (g := mkF m pc Ls (.int j :: .ref a :: rest)) rfl rfl hd t q) kk
theorem Go.daload (X : Stand p l e R s m args below meth c T locs cells slots) (hx : p.tables.exec = Jvm.exec) (hZ : Z.Warmed39 s.vm) (eT : T.heap = h) (F : Arv Z h a k .double z vs dv) (hj : ¬ j < 0 ∧ j < z) (hv : vs.getD j.toNatClampNeg dv = v) (hd : decode c.code pc = .ok (.daload, 1)) (kk : Go p e below Fi T (mkF m (pc + 1) Ls (v :: rest))) : Go p e below Fi T (mkF m pc Ls (.int j :: .ref a :: rest)) := by
  obtain ⟨cl, A, i1, i2⟩ := F.load hj
  rw [hv] at i2
  exact Go.of (fun t q => X.daload hx (by rw [eT]; exact A.1) (State.isArrayOf_alike hZ.alike A.2.1) A.2.2 i1 i2 (g := mkF m pc Ls (.int j :: .ref a :: rest)) rfl rfl hd t q) kk
theorem Go.dastore {x : UInt64} (X : Stand p l e R s m args below meth c T locs cells slots) (hx : p.tables.exec = Jvm.exec) (hZ : Z.Warmed39 s.vm) (eT : T.heap = h) (F : Arv Z h a k .double z vs dv) (hj : ¬ j < 0 ∧ j < z) (i : Nat) (hji : j.toNatClampNeg = i) (hi : i < vs.length) (hd : decode c.code pc = .ok (.dastore, 1))
    (kk : ∀ T' h', Stand p l e R s m args below meth c T' (locs ++ [⟨a, i⟩]) cells slots → T'.heap = h' → Wr h h' a i (.double x) → Arv Z h' a k .double z (vs.set i (.double x)) dv → Go p e below Fi T' (mkF m (pc + 1) Ls rest)) : Go p e below Fi T (mkF m pc Ls (.double x :: .int j :: .ref a :: rest)) := by
  obtain ⟨cl, A, q, S, M, H, G⟩ := F
  subst hji
  obtain ⟨T', h', X', e', W', st⟩ := stD X hx hZ eT A (inb_of S hj) (g := mkF m pc Ls (.double x :: .int j :: .ref a :: rest)) rfl rfl hd
  exact Go.of st (kk T' h' X' e' W' (Arv.set A q S M H G rfl W' _ rfl hi))
theorem Go.len (X : Stand p l e R s m args below meth c T locs cells slots) (hx : p.tables.exec = Jvm.exec) (hZ : Z.Warmed39 s.vm) (eT : T.heap = h) (F : Arv Z h a k ty z vs dv) (hd : decode c.code pc = .ok (.arraylength, 1)) (kk : Go p e below Fi T (mkF m (pc + 1) Ls (.int z :: rest))) : Go p e below Fi T (mkF m pc Ls (.ref a :: rest)) := by
  obtain ⟨cl, A, -, S, M, -, -⟩ := F
  exact Go.of (fun t q => X.arraylength hx (a := a) (cell := cl) (ty := ty) (by rw [eT]; exact A.1) (State.isArrayOf_alike hZ.alike A.2.1) (g := mkF m pc Ls (.ref a :: rest)) rfl (rest := rest) rfl hd t (by rw [len_of S M]; exact q)) kk
theorem Go.iastore (X : Stand p l e R s m args below meth c T locs cells slots) (hx : p.tables.exec = Jvm.exec) (hZ : Z.Warmed39 s.vm) (eT : T.heap = h) (F : Arv Z h a k .int z vs dv) (hj : ¬ j < 0 ∧ j < z) (i : Nat) (hji : j.toNatClampNeg = i) (hi : i < vs.length) (hd : decode c.code pc = .ok (.iastore, 1))
    (kk : ∀ T' h', Stand p l e R s m args below meth c T' (locs ++ [⟨a, i⟩]) cells slots → T'.heap = h' → Wr h h' a i (.int x) → Arv Z h' a k .int z (vs.set i (.int x)) dv → Go p e below Fi T' (mkF m (pc + 1) Ls rest)) : Go p e below Fi T (mkF m pc Ls (.int x :: .int j :: .ref a :: rest)) := by
  obtain ⟨cl, A, q, S, M, H, G⟩ := F
  subst hji
  obtain ⟨T', h', X', e', W', st⟩ := stI X hx hZ eT A (inb_of S hj) (g := mkF m pc Ls (.int x :: .int j :: .ref a :: rest)) rfl rfl hd
  exact Go.of st (kk T' h' X' e' W' (Arv.set A q S M H G rfl W' _ rfl hi))
theorem Go.lastore {x : Int64} (X : Stand p l e R s m args below meth c T locs cells slots) (hx : p.tables.exec = Jvm.exec) (hZ : Z.Warmed39 s.vm) (eT : T.heap = h) (F : Arv Z h a k .long z vs dv) (hj : ¬ j < 0 ∧ j < z) (i : Nat) (hji : j.toNatClampNeg = i) (hi : i < vs.length) (hd : decode c.code pc = .ok (.lastore, 1))
    (kk : ∀ T' h', Stand p l e R s m args below meth c T' (locs ++ [⟨a, i⟩]) cells slots → T'.heap = h' → Wr h h' a i (.long x) → Arv Z h' a k .long z (vs.set i (.long x)) dv → Go p e below Fi T' (mkF m (pc + 1) Ls rest)) : Go p e below Fi T (mkF m pc Ls (.long x :: .int j :: .ref a :: rest)) := by
  obtain ⟨cl, A, q, S, M, H, G⟩ := F
  subst hji
  obtain ⟨T', h', X', e', W', st⟩ := stJ X hx hZ eT A (inb_of S hj) (g := mkF m pc Ls (.long x :: .int j :: .ref a :: rest)) rfl rfl hd
  exact Go.of st (kk T' h' X' e' W' (Arv.set A q S M H G rfl W' _ rfl hi))
theorem Go.bastore (X : Stand p l e R s m args below meth c T locs cells slots) (hx : p.tables.exec = Jvm.exec) (hZ : Z.Warmed39 s.vm) (eT : T.heap = h) (F : Arv Z h a k .byte z vs dv) (hj : ¬ j < 0 ∧ j < z) (i : Nat) (hji : j.toNatClampNeg = i) (hi : i < vs.length) (hd : decode c.code pc = .ok (.bastore, 1))
    (kk : ∀ T' h', Stand p l e R s m args below meth c T' (locs ++ [⟨a, i⟩]) cells slots → T'.heap = h' → Wr h h' a i (.int (nar .byte x)) → Arv Z h' a k .byte z (vs.set i (.int (nar .byte x))) dv → Go p e below Fi T' (mkF m (pc + 1) Ls rest)) : Go p e below Fi T (mkF m pc Ls (.int x :: .int j :: .ref a :: rest)) := by
  obtain ⟨cl, A, q, S, M, H, G⟩ := F
  subst hji
  obtain ⟨T', h', X', e', W', st⟩ := stB X hx hZ eT A (inb_of S hj) (g := mkF m pc Ls (.int x :: .int j :: .ref a :: rest)) rfl rfl hd
  exact Go.of st (kk T' h' X' e' W' (Arv.set A q S M H G (fits_nar_byte _) W' _ rfl hi))
theorem Go.castore (X : Stand p l e R s m args below meth c T locs cells slots) (hx : p.tables.exec = Jvm.exec) (hZ : Z.Warmed39 s.vm) (eT : T.heap = h) (F : Arv Z h a k .char z vs dv) (hj : ¬ j < 0 ∧ j < z) (i : Nat) (hji : j.toNatClampNeg = i) (hi : i < vs.length) (hd : decode c.code pc = .ok (.castore, 1))
    (kk : ∀ T' h', Stand p l e R s m args below meth c T' (locs ++ [⟨a, i⟩]) cells slots → T'.heap = h' → Wr h h' a i (.int (nar .char x)) → Arv Z h' a k .char z (vs.set i (.int (nar .char x))) dv → Go p e below Fi T' (mkF m (pc + 1) Ls rest)) : Go p e below Fi T (mkF m pc Ls (.int x :: .int j :: .ref a :: rest)) := by
  obtain ⟨cl, A, q, S, M, H, G⟩ := F
  subst hji
  obtain ⟨T', h', X', e', W', st⟩ := stC X hx hZ eT A (inb_of S hj) (g := mkF m pc Ls (.int x :: .int j :: .ref a :: rest)) rfl rfl hd
  exact Go.of st (kk T' h' X' e' W' (Arv.set A q S M H G (fits_nar_char _) W' _ rfl hi))
theorem Go.newarr (X : Stand p l e R s m args below meth c T locs cells slots) (hx : p.tables.exec = Jvm.exec) (hZ : Z.Warmed39 s.vm) {aty : ArrayType} (w : (Cond.arrayClass (newarray.typeOf aty)).before a0 Z = true) (eT : T.heap = h) (cap : Nat) (hn : ¬ z < 0) (hcap : z.toNatClampNeg = cap) (hb : cap * 8 ≤ 536870912) (hc : cells + 1 ≤ R.cells) (hl : slots + cap ≤ R.slots) (hd : decode c.code pc = .ok (.newarray aty, 2))
    (kk : ∀ T' h' b k, b = h.size → Stand p l e R s m args below meth c T' locs (cells + 1) (slots + cap) → T'.heap = h' → Ext h h' → Arv Z h' b k (newarray.typeOf aty) z (List.replicate cap (defaultValue (newarray.typeOf aty))) (defaultValue (newarray.typeOf aty)) → Go p e below Fi T' (mkF m (pc + 2) Ls (.ref b :: rest))) : Go p e below Fi T (mkF m pc Ls (.int z :: rest)) := by
  obtain ⟨T', h', kA, X', e', E', A', st⟩ := newP X hx hZ w eT (g := mkF m pc Ls (.int z :: rest)) rfl hd rfl hn (cap := cap) (Nat.le_of_eq hcap) hb hc hl
  exact Go.of st (kk T' h' _ kA rfl X' e' E' ((Arv.new A' hn).pad (pad_rep [] _ cap)))
theorem Go.newarrE (X : Stand p l e R s m args below meth c T locs cells slots) (hx : p.tables.exec = Jvm.exec) (hZ : Z.Warmed39 s.vm) {aty : ArrayType} {ad : String} (had : "[" ++ (newarray.typeOf aty).toString = ad) (w : (Cond.arrayClass (newarray.typeOf aty)).before a0 Z = true) (eT : T.heap = h) (cap : Nat) (hn : ¬ z < 0) (hcap : z.toNatClampNeg = cap) (hb : cap * 8 ≤ 536870912) (hc : cells + 1 ≤ R.cells) (hl : slots + cap ≤ R.slots) (hd : decode c.code pc = .ok (.newarray aty, 2))
    (kk : ∀ T' h' b k, b = h.size → Stand p l e R s m args below meth c T' locs (cells + 1) (slots + cap) → T'.heap = h' → Ext h h' → Arv Z h' b k (newarray.typeOf aty) z (List.replicate cap (defaultValue (newarray.typeOf aty))) (defaultValue (newarray.typeOf aty)) → Exa Z h' b ad → Go p e below Fi T' (mkF m (pc + 2) Ls (.ref b :: rest))) : Go p e below Fi T (mkF m pc Ls (.int z :: rest)) := by
  obtain ⟨T', h', kA, X', e', E', A', EA, st⟩ := newPE X hx hZ w eT (g := mkF m pc Ls (.int z :: rest)) rfl hd rfl hn (cap := cap) (Nat.le_of_eq hcap) hb hc hl had
  exact Go.of st (kk T' h' _ kA rfl X' e' E' ((Arv.new A' hn).pad (pad_rep [] _ cap)) EA)
theorem Go.clone (X : Stand p l e R s m args below meth c T locs cells slots) (hx : p.tables.exec = Jvm.exec) (hZ : Z.Warmed39 s.vm) {ad : String} (hown : s.vm.findClass own = some m.cls)
    (w1 : (Cond.methodLink own index ⟨ad, "clone", "()Ljava/lang/Object;"⟩).before a0 Z = true) (w2 : (Cond.sameMethod ad "java/lang/Object" "clone" "()Ljava/lang/Object;").before a0 Z = true) (w3 : (Cond.native ⟨"java/lang/Object", "clone", "()Ljava/lang/Object;"⟩).before a0 Z = true)
    (w4 : (Cond.instanceMethod ⟨"java/lang/Object", "clone", "()Ljava/lang/Object;"⟩).before a0 Z = true) (w5 : (Cond.selects ad ⟨ad, "clone", "()Ljava/lang/Object;"⟩ ⟨"java/lang/Object", "clone", "()Ljava/lang/Object;"⟩).before a0 Z = true) (w6 : (Cond.castable ad "java/lang/Cloneable").before a0 Z = true)
    (eT : T.heap = h) (F : Arv Z h a k ty z vs dv) (E : Exa Z h a ad) (hsize : Ls.size = c.maxLocals) (hd : decode c.code pc = .ok (.invokevirtual index, 3)) (hf : 1 ≤ R.frames) {W cap : Nat} (hW : (rest.map fun v => v.category).sum ≤ W) (hl : W + 14 ≤ R.locals) (hcap : z.toNatClampNeg ≤ cap) (hc : cells + 1 ≤ R.cells) (hsl : slots + cap ≤ R.slots)
    (kk : ∀ T' h' b, b = h.size → Stand p l e R s m args below meth c T' locs (cells + 1) (slots + cap) → T'.heap = h' → Ext h h' → Arv Z h' b k ty z vs dv → Exa Z h' b ad → Go p e below Fi T' (mkF m (pc + 3) Ls (.ref b :: rest))) : Go p e below Fi T (mkF m pc Ls (.ref a :: rest)) := by
  obtain ⟨cl, A, q1, S, q3, H, G⟩ := F
  have FC : FitC Z cl := fitC_of A fun i hi v hv => by rw [H i hi] at hv; cases hv; exact G i hi
  obtain ⟨T', h', X', e', ex, A', E', st⟩ := cloneA X hx hZ hown w1 w2 w3 w4 w5 w6 eT A E FC (g := mkF m pc Ls (.ref a :: rest)) rfl hsize rfl hd hf (by show 2 * 0 + _ ≤ W; omega) hl (by rw [S]; exact hcap) hc hsl
  exact Go.of st (kk T' h' _ rfl X' e' ex ⟨cloneOf cl, A', q1, S, q3, H, G⟩ E')
theorem Go.castTo (X : Stand p l e R s m args below meth c T locs cells slots) (hx : p.tables.exec = Jvm.exec) (hZ : Z.Warmed39 s.vm) (hown : s.vm.findClass own = some m.cls) {K : String} (w : (Cond.classLink own index K).before a0 Z = true) (eT : T.heap = h) (I : Ins Z h a K true) (hd : decode c.code pc = .ok (.checkcast index, 3))
    (kk : ∀ T', Stand p l e R s m args below meth c T' locs cells slots → T'.heap = h → Go p e below Fi T' (mkF m (pc + 3) Ls (.ref a :: rest))) : Go p e below Fi T (mkF m pc Ls (.ref a :: rest)) := by
  obtain ⟨T', X', e', st⟩ := castY X hx hZ hown w eT I (g := mkF m pc Ls (.ref a :: rest)) rfl rfl hd
  exact Go.of st (kk T' X' e')
theorem Go.new (X : Stand p l e R s m args below meth c T locs cells slots) (hx : p.tables.exec = Jvm.exec) (hZ : Z.Warmed39 s.vm) (hown : s.vm.findClass own = some m.cls) (w : (Cond.classLink own index C).before a0 Z = true) (wi : (Cond.instantiable C nn).before a0 Z = true) (wz : (Cond.initialized C).before a0 Z = true) (eT : T.heap = h) (hd : decode c.code pc = .ok (.new index, 3)) (hc : cells + 1 ≤ R.cells) (hl : slots + nn ≤ R.slots)
    (kk : ∀ T' h' b, b = h.size → Stand p l e R s m args below meth c T' locs (cells + 1) (slots + nn) → T'.heap = h' → Ext h h' → Exa Z h' b C → (∀ {O nm d : String} {ty : FieldType}, Laid Z a0 C O nm d → parseFieldDescriptor d = some ty → Fld Z h' b O nm d (defaultValue ty)) → Go p e below Fi T' (mkF m (pc + 3) Ls (.ref b :: st))) : Go p e below Fi T (mkF m pc Ls st) := by
  obtain ⟨T', h', X', e', E', A', D', -, stp⟩ := newO X hx hZ hown w wi wz eT (g := mkF m pc Ls st) rfl hd hc hl
  exact Go.of stp (kk T' h' _ rfl X' e' E' A' D')
theorem Go.getf (X : Stand p l e R s m args below meth c T locs cells slots) (hx : p.tables.exec = Jvm.exec) (hZ : Z.Warmed39 s.vm) (hown : s.vm.findClass own = some m.cls) {R0 : String} (w : (Cond.fieldLink own index R0 n d).before a0 Z = true) (via : Via Z R0 O n d) (eT : T.heap = h) (F : Fld Z h a O n d v) (hd : decode c.code pc = .ok (.getfield index, 3))
    (kk : ∀ T', Stand p l e R s m args below meth c T' locs cells slots → T'.heap = h → Go p e below Fi T' (mkF m (pc + 3) Ls (v :: rest))) : Go p e below Fi T (mkF m pc Ls (.ref a :: rest)) := by
  obtain ⟨T', X', e', st⟩ := getF X hx hZ hown (host := "") (Or.inl w) via eT F (g := mkF m pc Ls (.ref a :: rest)) rfl rfl hd
  exact Go.of st (kk T' X' e')
theorem Go.gets (X : Stand p l e R s m args below meth c T locs cells slots) (hx : p.tables.exec = Jvm.exec) (hZ : Z.Warmed39 s.vm) (hown : s.vm.findClass own = some m.cls) {R0 : String} (w : (Cond.fieldLink own index R0 n d).before a0 Z = true) (via : Via Z R0 O n d) (eT : T.heap = h) (F : Sta Z h O n d v) (hd : decode c.code pc = .ok (.getstatic index, 3))
    (kk : ∀ T', Stand p l e R s m args below meth c T' locs cells slots → T'.heap = h → Go p e below Fi T' (mkF m (pc + 3) Ls (v :: st))) : Go p e below Fi T (mkF m pc Ls st) := by
  obtain ⟨T', X', e', stp⟩ := getS2 X hx hZ hown (host := "") (Or.inl w) via eT F (g := mkF m pc Ls st) rfl hd
  exact Go.of stp (kk T' X' e')
theorem Go.putf (X : Stand p l e R s m args below meth c T locs cells slots) (hx : p.tables.exec = Jvm.exec) (hZ : Z.Warmed39 s.vm) (hown : s.vm.findClass own = some m.cls) {R0 : String} (w : (Cond.fieldLink own index R0 n d).before a0 Z = true) (via : Via Z R0 O n d) (eT : T.heap = h) {old : Value} (F : Fld Z h a O n d old) (E : Exa Z h a C) (L : (Cond.lays C O n d).before a0 Z = true ∨ ((Cond.laysFinal C O n d).before a0 Z = true ∧ own = O ∧ meth.name = "<init>")) (wi : (Cond.instantiable C nn).before a0 Z = true) (hty : parseFieldDescriptor d = some ty) {v' : Value} (hn : narrow ty v = v') (hf : fits ty v' = true) (hd : decode c.code pc = .ok (.putfield index, 3))
    (kk : ∀ T' h', Stand p l e R s m args below meth c T' (locs ++ [⟨a, slotOf Z O n d⟩]) cells slots → T'.heap = h' → Wr h h' a (slotOf Z O n d) v' → Fld Z h' a O n d v' → Exa Z h' a C → Go p e below Fi T' (mkF m (pc + 3) Ls rest)) : Go p e below Fi T (mkF m pc Ls (v :: .ref a :: rest)) := by
  obtain ⟨T', h', X', e', W', st⟩ := putFN X hx hZ hown w via eT F E L wi hty hn hf (g := mkF m pc Ls (v :: .ref a :: rest)) rfl rfl hd
  exact Go.of st (kk T' h' X' e' W' (F.same W') (E.wr W'))
theorem Go.initObj (X : Stand p l e R s m args below meth c T locs cells slots) (hx : p.tables.exec = Jvm.exec) (hZ : Z.Warmed39 s.vm) (hown : s.vm.findClass own = some m.cls) (w1 : (Cond.methodLink own index Lib.objectInit).before a0 Z = true) (w2 : (Cond.instanceMethod Lib.objectInit).before a0 Z = true) (w3 : (Cond.code Lib.objectInit ⟨#[0xb1]⟩ 1 none).before a0 Z = true) (eT : T.heap = h) (hsize : Ls.size = c.maxLocals) (hd : decode c.code pc = .ok (.invokespecial index, 3)) (hf : 1 ≤ R.frames) {W : Nat} (hW : (rest.map fun v => v.category).sum ≤ W) (hl : W + 12 ≤ R.locals)
    (kk : ∀ T', Stand p l e R s m args below meth c T' locs cells slots → T'.heap = h → Go p e below Fi T' (mkF m (pc + 3) Ls rest)) : Go p e below Fi T (mkF m pc Ls (.ref a :: rest)) := by
  obtain ⟨T', X', e', st⟩ := initO X hx hZ hown w1 w2 w3 eT (g := mkF m pc Ls (.ref a :: rest)) rfl hsize rfl hd hf (W := W) (by show 2 * 0 + _ ≤ _; omega) hl
  exact Go.of st (kk T' X' e')
end Heaping
end Jvm.RoadKit
namespace Jvm.Pilot.@@N@@
open Jvm Jvm.ClassFile Sem Op Lib Jvm.Free Jvm.Stand Jvm.LawKit Jvm.RoadKit Bundle Jvm.Pilot.@@N@@.Jvm.D
theorem own_ushr (x : Int32) (n k : Nat) (hx : 0 ≤ x) (hn : ((Int32.ofNat n) &&& 31).toUInt32.toNat = k) (hk : k < 32) : (XS.ushr x (Int32.ofNat n)).toInt = x.toInt / 2 ^ k := Jvm.Kit.i32_iushr hx hn hk
theorem own_and7 (x : Int32) : 0 ≤ (x &&& 7).toInt ∧ (x &&& 7).toInt ≤ 7 := by
  have := Jvm.Kit.i32_mask x 7 (k := 3) (by decide) (by decide)
  omega
theorem own_rem {x y : Int32} (hx : 0 ≤ x.toInt) (hy : 0 < y.toInt) : 0 ≤ (x % y).toInt ∧ (x % y).toInt < y.toInt := by
  rw [Jvm.Kit.i32_rem_nonneg hx]
  exact ⟨Int.emod_nonneg _ (by omega), Int.emod_lt_of_pos _ hy⟩
theorem own_c5 : (5 : Int32).toInt = 5 := rfl
theorem own_c0 : (0 : Int32).toInt = 0 := rfl
theorem own_c1 : (1 : Int32).toInt = 1 := rfl
theorem own_fr {x fr : Int32} (h : (x &&& 7) % 5 = fr) : 0 ≤ fr.toInt ∧ fr.toInt < 5 := by
  subst h; have := own_rem (x := x &&& 7) (y := 5) (own_and7 x).1 (by rw [own_c5]; omega); rw [own_c5] at this; exact this
theorem own_sub5 {fr : Int32} (h : 0 ≤ fr.toInt ∧ fr.toInt < 5) : ((5 : Int32) - fr).toInt = 5 - fr.toInt := by
  rw [Jvm.Kit.i32_sub (by rw [own_c5]; omega) (by rw [own_c5]; omega), own_c5]
theorem own_nz {fr : Int32} (h : 0 ≤ fr.toInt ∧ fr.toInt < 5) : (5 : Int32) - fr ≠ 0 := fun q => by
  have := own_sub5 h; rw [q, own_c0] at this; omega
theorem own_step {x fr lo : Int32} (h : 0 ≤ fr.toInt ∧ fr.toInt < 5) (e : fr + (x &&& 7) % ((5 : Int32) - fr) = lo) : fr.toInt ≤ lo.toInt ∧ lo.toInt < 5 := by
  have h2 := own_rem (x := x &&& 7) (y := (5 : Int32) - fr) (own_and7 x).1 (by rw [own_sub5 h]; omega)
  rw [own_sub5 h] at h2
  rw [← e, Jvm.Kit.i32_add (by omega) (by omega)]
  omega
theorem own_nn {x : Int32} (h : 0 ≤ x.toInt) : ¬ x < 0 := by rw [Int32.lt_iff_toInt_lt, own_c0]; omega
theorem own_lt5 {x : Int32} (h : x.toInt < 5) : x < 5 := by rw [Int32.lt_iff_toInt_lt, own_c5]; omega
theorem own_cmp {x y : Int64} : (0 : Int32) < XS.cmpL x y ↔ y < x := by
  unfold XS.cmpL
  split
  · simp_all
  · split <;> simp_all
def own_P (bs : List Int64) (fr : Int32) (rank : Int64) (q : Int32) : Bool := decide ((0 : Int32) < XS.cmpL (bs.getD (q + 1).toNatClampNeg 0 - bs.getD fr.toNatClampNeg 0) rank)
def own_holds (P : Int32 → Bool) (lo hi q : Int32) : Int32 := if q < lo then 0 else if q < hi then (if P q = true then 1 else 0) else 0
def own_bs : Nat → (Int32 → Bool) → Int32 → Int32 → Int32
  | 0, _, lo, _ => lo
  | n + 1, P, lo, hi => if lo < hi then (if P (XS.ushr (lo + hi) 1) = true then own_bs n P lo (XS.ushr (lo + hi) 1) else own_bs n P (XS.ushr (lo + hi) 1 + 1) hi) else lo
theorem own_at {bs : List Int64} {j : Int32} : (bs.map Value.long).getD j.toNatClampNeg (.long 0) = .long (bs.getD j.toNatClampNeg 0) := by
  simp only [List.getD_eq_getElem?_getD, List.getElem?_map]
  cases bs[j.toNatClampNeg]? <;> rfl
theorem own_idx {lo q hi : Int32} (h1 : 0 ≤ lo.toInt) (h2 : lo.toInt ≤ q.toInt) (h3 : q.toInt < hi.toInt) (h4 : hi.toInt < 5) : ¬ (q + 1) < 0 ∧ (q + 1) < 5 := by
  have e : (q + 1).toInt = q.toInt + 1 := by rw [Jvm.Kit.i32_add (by rw [own_c1]; omega) (by rw [own_c1]; omega), own_c1]
  rw [Int32.lt_iff_toInt_lt, Int32.lt_iff_toInt_lt, e, own_c0, own_c5]; omega
theorem own_idx' {lo q hi : Int32} (h1 : 0 ≤ lo.toInt) (h2 : ¬ q < lo) (h3 : q < hi) (h4 : hi.toInt < 5) : ¬ (q + 1) < 0 ∧ (q + 1) < 5 := by
  rw [Int32.lt_iff_toInt_lt] at h2 h3
  exact own_idx h1 (by omega) h3 h4
theorem own_mid {lo hi mid : Int32} (h1 : 0 ≤ lo.toInt) (h2 : lo < hi) (h4 : hi.toInt < 5) (e : XS.ushr (lo + hi) 1 = mid) : lo.toInt ≤ mid.toInt ∧ mid.toInt < hi.toInt := by
  rw [Int32.lt_iff_toInt_lt] at h2
  have e1 : (lo + hi).toInt = lo.toInt + hi.toInt := Jvm.Kit.i32_add (by omega) (by omega)
  have e2 : (XS.ushr (lo + hi) 1).toInt = (lo + hi).toInt / 2 ^ 1 := own_ushr _ 1 1 (by rw [Int32.le_iff_toInt_le, e1, own_c0]; omega) (by decide) (by decide)
  rw [← e, e2, e1]; omega
theorem own_up {mid hi : Int32} (h : mid.toInt < hi.toInt) (h4 : hi.toInt < 5) (h0 : 0 ≤ mid.toInt) : (mid + 1).toInt = mid.toInt + 1 := by
  rw [Jvm.Kit.i32_add (by rw [own_c1]; omega) (by rw [own_c1]; omega), own_c1]
theorem own_nlt {lo hi : Int32} (h : hi.toInt - lo.toInt ≤ ((0 : Nat) : Int)) : ¬ lo < hi := by rw [Int32.lt_iff_toInt_lt]; omega
theorem own_congr {P P' : Int32 → Bool} (hP : ∀ q : Int32, 0 ≤ q.toInt → q.toInt < 4 → P q = P' q) : ∀ (n : Nat) (lo hi : Int32), 0 ≤ lo.toInt → hi.toInt < 5 → own_bs n P lo hi = own_bs n P' lo hi
  | 0, _, _, _, _ => rfl
  | n + 1, lo, hi, h1, h2 => by
    simp only [own_bs]
    by_cases h : lo < hi
    · obtain ⟨m1, m2⟩ := own_mid h1 h h2 rfl
      rw [if_pos h, if_pos h, hP _ (by omega) (by omega), own_congr hP n lo _ h1 (by omega), own_congr hP n _ hi (by rw [own_up m2 h2 (by omega)]; omega) h2]
    · rw [if_neg h, if_neg h]
def own_four (p0 p1 p2 p3 : Bool) (q : Int32) : Bool := if q = 0 then p0 else if q = 1 then p1 else if q = 2 then p2 else p3
def own_exp (P : Int32 → Bool) (lo hi : Int32) : Int32 :=
  if own_holds P lo hi 0 = 0 then (if own_holds P lo hi 1 = 0 then (if own_holds P lo hi 2 = 0 then (if own_holds P lo hi 3 = 0 then hi else 3) else 2) else 1) else 0
theorem own_table : ∀ lo hi : Fin 5, lo ≤ hi → ∀ p0 p1 p2 p3 : Bool, (p0 = true → p1 = true) → (p1 = true → p2 = true) → (p2 = true → p3 = true) → own_bs 5 (own_four p0 p1 p2 p3) (Int32.ofNat lo.val) (Int32.ofNat hi.val) = own_exp (own_four p0 p1 p2 p3) (Int32.ofNat lo.val) (Int32.ofNat hi.val) := by decide +kernel
theorem own_four_eq {P : Int32 → Bool} (q : Int32) (h0 : 0 ≤ q.toInt) (h1 : q.toInt < 4) : P q = own_four (P 0) (P 1) (P 2) (P 3) q := by
  have hq : q = Int32.ofNat q.toInt.toNat := by
    apply Int32.toInt_inj.mp
    rw [Int32.toInt_ofNat_of_lt (by omega)]; omega
  have hn : q.toInt.toNat < 4 := by omega
  rw [hq]
  generalize q.toInt.toNat = n at hn
  match n, hn with
  | 0, _ => rfl
  | 1, _ => rfl
  | 2, _ => rfl
  | 3, _ => rfl
theorem own_holds_eq {P : Int32 → Bool} (lo hi q : Int32) (h0 : 0 ≤ q.toInt) (h1 : q.toInt < 4) : own_holds P lo hi q = own_holds (own_four (P 0) (P 1) (P 2) (P 3)) lo hi q := by
  simp only [own_holds, own_four_eq (P := P) q h0 h1]
theorem own_final {P : Int32 → Bool} {lo hi : Int32} (h1 : 0 ≤ lo.toInt) (h2 : lo.toInt ≤ hi.toInt) (h3 : hi.toInt < 5) (m0 : P 0 = true → P 1 = true) (m1 : P 1 = true → P 2 = true) (m2 : P 2 = true → P 3 = true) : own_bs 5 P lo hi = own_exp P lo hi := by
  rw [own_congr (P' := own_four (P 0) (P 1) (P 2) (P 3)) (fun q a b => own_four_eq q a b) 5 lo hi h1 h3]
  have e : own_exp P lo hi = own_exp (own_four (P 0) (P 1) (P 2) (P 3)) lo hi := by
    simp only [own_exp, own_holds_eq (P := P) lo hi 0 (by decide) (by decide), own_holds_eq (P := P) lo hi 1 (by decide) (by decide), own_holds_eq (P := P) lo hi 2 (by decide) (by decide), own_holds_eq (P := P) lo hi 3 (by decide) (by decide)]
  rw [e]
  have hl : lo = Int32.ofNat lo.toInt.toNat := by
    apply Int32.toInt_inj.mp
    rw [Int32.toInt_ofNat_of_lt (by omega)]; omega
  have hh : hi = Int32.ofNat hi.toInt.toNat := by
    apply Int32.toInt_inj.mp
    rw [Int32.toInt_ofNat_of_lt (by omega)]; omega
  have := own_table ⟨lo.toInt.toNat, by omega⟩ ⟨hi.toInt.toNat, by omega⟩ (by show lo.toInt.toNat ≤ hi.toInt.toNat; omega) (P 0) (P 1) (P 2) (P 3) m0 m1 m2
  rw [hl, hh]; exact this
theorem own_inc {x : Int64} : 0 ≤ (x &&& 65535).toInt ∧ (x &&& 65535).toInt ≤ 65535 := by
  have := Jvm.Kit.i64_mask x 65535 (k := 16) (by decide) (by decide)
  omega
theorem own_b0 {x b : Int64} (h : x &&& 4611686018427387903 = b) : 0 ≤ b.toInt ∧ b.toInt < 2 ^ 62 := by
  have := Jvm.Kit.i64_mask x 4611686018427387903 (k := 62) (by decide) (by decide)
  rw [← h, this]; omega
theorem own_bn {a x b : Int64} {k : Nat} (h : a + (x &&& 65535) = b) (ha : 0 ≤ a.toInt ∧ a.toInt < 2 ^ 62 + k * 65536) (hk : k ≤ 4) : a.toInt ≤ b.toInt ∧ b.toInt < 2 ^ 62 + (k + 1 : Nat) * 65536 := by
  have hi := own_inc (x := x)
  rw [← h, Jvm.Kit.i64_add (by omega) (by omega)]
  omega
theorem own_mono {bs : List Int64} {fr : Int32} {rank : Int64} {q q' : Int32} (hf : 0 ≤ (bs.getD fr.toNatClampNeg 0).toInt) (h0 : 0 ≤ (bs.getD (q + 1).toNatClampNeg 0).toInt) (hm : (bs.getD (q + 1).toNatClampNeg 0).toInt ≤ (bs.getD (q' + 1).toNatClampNeg 0).toInt) (h : own_P bs fr rank q = true) : own_P bs fr rank q' = true := by
  simp only [own_P, decide_eq_true_eq, own_cmp, Int64.lt_iff_toInt_lt] at h ⊢
  have a1 := (bs.getD (q + 1).toNatClampNeg 0).toInt_lt
  have a2 := (bs.getD (q' + 1).toNatClampNeg 0).toInt_lt
  have a3 := (bs.getD fr.toNatClampNeg 0).toInt_lt
  rw [Jvm.Kit.i64_sub (by omega) (by omega)] at h ⊢
  omega
theorem own_nonneg {b0 b1 b2 b3 b4 : Int64} (h0 : 0 ≤ b0.toInt) (h1 : b0.toInt ≤ b1.toInt) (h2 : b1.toInt ≤ b2.toInt) (h3 : b2.toInt ≤ b3.toInt) (h4 : b3.toInt ≤ b4.toInt) (n : Nat) : 0 ≤ ([b0, b1, b2, b3, b4].getD n 0).toInt := by
  match n with
  | 0 => exact h0
  | 1 => show 0 ≤ b1.toInt; omega
  | 2 => show 0 ≤ b2.toInt; omega
  | 3 => show 0 ≤ b3.toInt; omega
  | 4 => show 0 ≤ b4.toInt; omega
  | n + 5 => show 0 ≤ (0 : Int64).toInt; decide
theorem own_end {b0 b1 b2 b3 b4 rank : Int64} {fr lo hi : Int32} (h0 : 0 ≤ b0.toInt) (h1 : b0.toInt ≤ b1.toInt) (h2 : b1.toInt ≤ b2.toInt) (h3 : b2.toInt ≤ b3.toInt) (h4 : b3.toInt ≤ b4.toInt) (g1 : 0 ≤ lo.toInt) (g2 : lo.toInt ≤ hi.toInt) (g3 : hi.toInt < 5) :
    own_bs 5 (own_P [b0, b1, b2, b3, b4] fr rank) lo hi = own_exp (own_P [b0, b1, b2, b3, b4] fr rank) lo hi := by
  have nn := own_nonneg h0 h1 h2 h3 h4
  refine own_final g1 g2 g3 ?_ ?_ ?_
  · exact own_mono (nn _) (nn _) h2
  · exact own_mono (nn _) (nn _) h3
  · exact own_mono (nn _) (nn _) h4
theorem own_dsc0 : parseMethodDescriptor "([JIIIJI)Z" = some ⟨[(.array .long), .int, .int, .int, .long, .int], some .boolean⟩ := by decide +kernel
theorem own_dsc1 : parseMethodDescriptor "([JIIIJ)I" = some ⟨[(.array .long), .int, .int, .int, .long], some .int⟩ := by decide +kernel
theorem own_hd0 : decode method_3_code 0 = .ok (.iload 6, 2) := by decide +kernel
theorem own_hd2 : decode method_3_code 2 = .ok (.iload_n 2, 1) := by decide +kernel
theorem own_hd3 : decode method_3_code 3 = .ok (.if_icmp .lt 29, 3) := by decide +kernel
theorem own_hd6 : decode method_3_code 6 = .ok (.iload 6, 2) := by decide +kernel
theorem own_hd8 : decode method_3_code 8 = .ok (.iload_n 3, 1) := by decide +kernel
theorem own_hd9 : decode method_3_code 9 = .ok (.if_icmp .ge 23, 3) := by decide +kernel
theorem own_hd12 : decode method_3_code 12 = .ok (.aload_n 0, 1) := by decide +kernel
theorem own_hd13 : decode method_3_code 13 = .ok (.iload 6, 2) := by decide +kernel
theorem own_hd15 : decode method_3_code 15 = .ok (.iconst 1, 1) := by decide +kernel
theorem own_hd16 : decode method_3_code 16 = .ok (.iadd, 1) := by decide +kernel
theorem own_hd17 : decode method_3_code 17 = .ok (.laload, 1) := by decide +kernel
theorem own_hd18 : decode method_3_code 18 = .ok (.aload_n 0, 1) := by decide +kernel
theorem own_hd19 : decode method_3_code 19 = .ok (.iload_n 1, 1) := by decide +kernel
theorem own_hd20 : decode method_3_code 20 = .ok (.laload, 1) := by decide +kernel
theorem own_hd21 : decode method_3_code 21 = .ok (.lsub, 1) := by decide +kernel
theorem own_hd22 : decode method_3_code 22 = .ok (.lload 4, 2) := by decide +kernel
theorem own_hd24 : decode method_3_code 24 = .ok (.lcmp, 1) := by decide +kernel
theorem own_hd25 : decode method_3_code 25 = .ok (.ifCond .le 7, 3) := by decide +kernel
theorem own_hd28 : decode method_3_code 28 = .ok (.iconst 1, 1) := by decide +kernel
theorem own_hd29 : decode method_3_code 29 = .ok (.goto 4, 3) := by decide +kernel
theorem own_hd32 : decode method_3_code 32 = .ok (.iconst 0, 1) := by decide +kernel
theorem own_hd33 : decode method_3_code 33 = .ok (.ireturn, 1) := by decide +kernel
set_option maxRecDepth 65536 in
set_option maxHeartbeats 40000000 in
theorem own_rmH (l : Launch) (Z : State) (a0 : Array Value) (hw : ∀ d ∈ tables_1, d.before a0 Z = true) (a : Addr) (fr lo hi : Int32) (rank : Int64) (q : Int32) (k : ClassId) (bs : List Int64) (h0 : Heap) (VA : Arv Z h0 a k .long 5 (bs.map Value.long) (.long 0)) (hfr : ¬ fr < 0 ∧ fr < 5) (hlo : 0 ≤ lo.toInt) (hhi : hi.toInt < 5) :
    MetFree l (⟨"com/example/joulepath/joulepath/core/powerlog/SortedMeansRankPlacePinLaw", "holds", "([JIIIJI)Z"⟩ : MethodName) (head1 [Jvm.Cond.code (⟨"com/example/joulepath/joulepath/core/powerlog/SortedMeansRankPlacePinLaw", "holds", "([JIIIJI)Z"⟩ : MethodName) method_3_code 7 (some .boolean)] ({ frames := 0, cells := 0, slots := 0, locals := 0 } : Room)) (fun aa U => aa = #[(.ref a), (.int fr), (.int lo), (.int hi), (.long rank), (.int q)] ∧ Z.Warmed39 U.vm ∧ U.heap = h0) (fun _ _ _ _ _ => True) (fun _ U o U' => ∃ v L, o = .returned v ∧ (PQ h0 (some (.int (own_holds (own_P bs fr rank) lo hi q)))) v U'.heap L ∧ FrameEnd U o U' L ({ frames := 0, cells := 0, slots := 0, locals := 0 } : Room).cells ({ frames := 0, cells := 0, slots := 0, locals := 0 } : Room).slots) := by
  refine goBody (y := (⟨"com/example/joulepath/joulepath/core/powerlog/SortedMeansRankPlacePinLaw", "holds", "([JIIIJI)Z"⟩ : MethodName)) (Q := PQ h0 (some (.int (own_holds (own_P bs fr rank) lo hi q)))) (plainFor_of_name (by first | (simp [plainName, overriddenIn]; done) | decide +kernel)) ?_
  intro p e s m below meth c T0 hx hZ hby hml hown hnm hret hlk X0 e0
  have hown : s.vm.findClass "com/example/joulepath/joulepath/core/powerlog/SortedMeansRankPlacePinLaw" = some m.cls := hown
  refine Go.cast (g' := mkF m 0 #[.val (.ref a), .val (.int fr), .val (.int lo), .val (.int hi), .val (.long rank), .second, .val (.int q)] []) (by first | (simp [entryFrame, mkF, argsToLocals, Value.category]; done) | rfl) ?_
  show Go p e below _ T0 (mkF m 0 #[.val (.ref a), .val (.int fr), .val (.int lo), .val (.int hi), .val (.long rank), .second, .val (.int q)] [])
  refine Go.of (fun _ k => XS.iload X0.here hx rfl (hb hby own_hd0) rfl k) ?_
  show Go p e below _ T0 (mkF m 2 #[.val (.ref a), .val (.int fr), .val (.int lo), .val (.int hi), .val (.long rank), .second, .val (.int q)] [(.int q)])
  refine Go.of (fun _ k => XS.iloadN X0.here hx rfl (hb hby own_hd2) rfl k) ?_
  show Go p e below _ T0 (mkF m 3 #[.val (.ref a), .val (.int fr), .val (.int lo), .val (.int hi), .val (.long rank), .second, .val (.int q)] [(.int lo), (.int q)])
  by_cases hc3 : q < lo
  ·
    refine Go.of (fun _ k => XS.icmpYes X0.here hx rfl (pc0 := 3) (pc' := 32) rfl (hb hby own_hd3) rfl (tlt hc3).1 (by decide) (by decide) k) ?_
    show Go p e below _ T0 (mkF m 32 #[.val (.ref a), .val (.int fr), .val (.int lo), .val (.int hi), .val (.long rank), .second, .val (.int q)] [])
    refine Go.of (fun _ k => XS.iconst X0.here hx rfl (hb hby own_hd32) k) ?_
    show Go p e below _ T0 (mkF m 33 #[.val (.ref a), .val (.int fr), .val (.int lo), .val (.int hi), .val (.long rank), .second, .val (.int q)] [(.int (0 : Int32))])
    exact Go.retN X0 hx hlk (t := .boolean) hret (by simp) (hb hby own_hd33) (by decide) (by decide) ⟨congrArg (fun z => some (Value.int z)) (show (0 : Int32) = own_holds (own_P bs fr rank) lo hi q by simp [own_holds, hc3]), rfl, e0⟩
  ·
    refine Go.of (fun _ k => XS.icmpNo X0.here hx rfl (hb hby own_hd3) rfl (flt hc3).1 k) ?_
    show Go p e below _ T0 (mkF m 6 #[.val (.ref a), .val (.int fr), .val (.int lo), .val (.int hi), .val (.long rank), .second, .val (.int q)] [])
    refine Go.of (fun _ k => XS.iload X0.here hx rfl (hb hby own_hd6) rfl k) ?_
    show Go p e below _ T0 (mkF m 8 #[.val (.ref a), .val (.int fr), .val (.int lo), .val (.int hi), .val (.long rank), .second, .val (.int q)] [(.int q)])
    refine Go.of (fun _ k => XS.iloadN X0.here hx rfl (hb hby own_hd8) rfl k) ?_
    show Go p e below _ T0 (mkF m 9 #[.val (.ref a), .val (.int fr), .val (.int lo), .val (.int hi), .val (.long rank), .second, .val (.int q)] [(.int hi), (.int q)])
    by_cases hc9 : q < hi
    ·
      refine Go.of (fun _ k => XS.icmpNo X0.here hx rfl (hb hby own_hd9) rfl (tlt hc9).2.1 k) ?_
      show Go p e below _ T0 (mkF m 12 #[.val (.ref a), .val (.int fr), .val (.int lo), .val (.int hi), .val (.long rank), .second, .val (.int q)] [])
      refine Go.of (fun _ k => XS.aloadN X0.here hx rfl (hb hby own_hd12) rfl rfl k) ?_
      show Go p e below _ T0 (mkF m 13 #[.val (.ref a), .val (.int fr), .val (.int lo), .val (.int hi), .val (.long rank), .second, .val (.int q)] [(.ref a)])
      refine Go.of (fun _ k => XS.iload X0.here hx rfl (hb hby own_hd13) rfl k) ?_
      show Go p e below _ T0 (mkF m 15 #[.val (.ref a), .val (.int fr), .val (.int lo), .val (.int hi), .val (.long rank), .second, .val (.int q)] [(.int q), (.ref a)])
      refine Go.of (fun _ k => XS.iconst X0.here hx rfl (hb hby own_hd15) k) ?_
      show Go p e below _ T0 (mkF m 16 #[.val (.ref a), .val (.int fr), .val (.int lo), .val (.int hi), .val (.long rank), .second, .val (.int q)] [(.int (1 : Int32)), (.int q), (.ref a)])
      refine Go.of (fun _ k => XS.iadd X0.here hx rfl (hb hby own_hd16) rfl k) ?_
      show Go p e below _ T0 (mkF m 17 #[.val (.ref a), .val (.int fr), .val (.int lo), .val (.int hi), .val (.long rank), .second, .val (.int q)] [(.int (q + (1 : Int32))), (.ref a)])
      refine Go.laload X0 hx hZ e0 VA (own_idx' hlo hc3 hc9 hhi) (v := (.long (bs.getD (q + (1 : Int32)).toNatClampNeg 0))) own_at (hb hby own_hd17) ?_
      show Go p e below _ T0 (mkF m 18 #[.val (.ref a), .val (.int fr), .val (.int lo), .val (.int hi), .val (.long rank), .second, .val (.int q)] [(.long (bs.getD (q + (1 : Int32)).toNatClampNeg 0))])
      refine Go.of (fun _ k => XS.aloadN X0.here hx rfl (hb hby own_hd18) rfl rfl k) ?_
      show Go p e below _ T0 (mkF m 19 #[.val (.ref a), .val (.int fr), .val (.int lo), .val (.int hi), .val (.long rank), .second, .val (.int q)] [(.ref a), (.long (bs.getD (q + (1 : Int32)).toNatClampNeg 0))])
      refine Go.of (fun _ k => XS.iloadN X0.here hx rfl (hb hby own_hd19) rfl k) ?_
      show Go p e below _ T0 (mkF m 20 #[.val (.ref a), .val (.int fr), .val (.int lo), .val (.int hi), .val (.long rank), .second, .val (.int q)] [(.int fr), (.ref a), (.long (bs.getD (q + (1 : Int32)).toNatClampNeg 0))])
      refine Go.laload X0 hx hZ e0 VA hfr (v := (.long (bs.getD fr.toNatClampNeg 0))) own_at (hb hby own_hd20) ?_
      show Go p e below _ T0 (mkF m 21 #[.val (.ref a), .val (.int fr), .val (.int lo), .val (.int hi), .val (.long rank), .second, .val (.int q)] [(.long (bs.getD fr.toNatClampNeg 0)), (.long (bs.getD (q + (1 : Int32)).toNatClampNeg 0))])
      refine Go.of (fun _ k => XS.lsub X0.here hx rfl (hb hby own_hd21) rfl k) ?_
      show Go p e below _ T0 (mkF m 22 #[.val (.ref a), .val (.int fr), .val (.int lo), .val (.int hi), .val (.long rank), .second, .val (.int q)] [(.long ((bs.getD (q + (1 : Int32)).toNatClampNeg 0) - (bs.getD fr.toNatClampNeg 0)))])
      refine Go.of (fun _ k => XS.lload X0.here hx rfl (hb hby own_hd22) rfl k) ?_
      show Go p e below _ T0 (mkF m 24 #[.val (.ref a), .val (.int fr), .val (.int lo), .val (.int hi), .val (.long rank), .second, .val (.int q)] [(.long rank), (.long ((bs.getD (q + (1 : Int32)).toNatClampNeg 0) - (bs.getD fr.toNatClampNeg 0)))])
      refine Go.of (fun _ k => XS.lcmp X0.here hx rfl (hb hby own_hd24) rfl k) ?_
      show Go p e below _ T0 (mkF m 25 #[.val (.ref a), .val (.int fr), .val (.int lo), .val (.int hi), .val (.long rank), .second, .val (.int q)] [(.int (XS.cmpL ((bs.getD (q + (1 : Int32)).toNatClampNeg 0) - (bs.getD fr.toNatClampNeg 0)) rank))])
      by_cases hc25 : (0 : Int32) < (XS.cmpL ((bs.getD (q + (1 : Int32)).toNatClampNeg 0) - (bs.getD fr.toNatClampNeg 0)) rank)
      ·
        refine Go.of (fun _ k => XS.ifNo X0.here hx rfl (hb hby own_hd25) rfl ((if0 _ _).trans (tlt hc25).2.2.2) k) ?_
        show Go p e below _ T0 (mkF m 28 #[.val (.ref a), .val (.int fr), .val (.int lo), .val (.int hi), .val (.long rank), .second, .val (.int q)] [])
        refine Go.of (fun _ k => XS.iconst X0.here hx rfl (hb hby own_hd28) k) ?_
        show Go p e below _ T0 (mkF m 29 #[.val (.ref a), .val (.int fr), .val (.int lo), .val (.int hi), .val (.long rank), .second, .val (.int q)] [(.int (1 : Int32))])
        refine Go.of (fun _ k => XS.goto X0.here hx rfl (pc0 := 29) (pc' := 33) rfl (hb hby own_hd29) (by decide) (by decide) k) ?_
        show Go p e below _ T0 (mkF m 33 #[.val (.ref a), .val (.int fr), .val (.int lo), .val (.int hi), .val (.long rank), .second, .val (.int q)] [(.int (1 : Int32))])
        exact Go.retN X0 hx hlk (t := .boolean) hret (by simp) (hb hby own_hd33) (by decide) (by decide) ⟨congrArg (fun z => some (Value.int z)) (show (1 : Int32) = own_holds (own_P bs fr rank) lo hi q by simp [own_holds, show own_P bs fr rank q = true from decide_eq_true hc25, hc3, hc9]), rfl, e0⟩
      ·
        refine Go.of (fun _ k => XS.ifYes X0.here hx rfl (pc0 := 25) (pc' := 32) rfl (hb hby own_hd25) rfl ((if0 _ _).trans (flt hc25).2.2.2) (by decide) (by decide) k) ?_
        show Go p e below _ T0 (mkF m 32 #[.val (.ref a), .val (.int fr), .val (.int lo), .val (.int hi), .val (.long rank), .second, .val (.int q)] [])
        refine Go.of (fun _ k => XS.iconst X0.here hx rfl (hb hby own_hd32) k) ?_
        show Go p e below _ T0 (mkF m 33 #[.val (.ref a), .val (.int fr), .val (.int lo), .val (.int hi), .val (.long rank), .second, .val (.int q)] [(.int (0 : Int32))])
        exact Go.retN X0 hx hlk (t := .boolean) hret (by simp) (hb hby own_hd33) (by decide) (by decide) ⟨congrArg (fun z => some (Value.int z)) (show (0 : Int32) = own_holds (own_P bs fr rank) lo hi q by simp [own_holds, show own_P bs fr rank q = false from decide_eq_false hc25, hc3, hc9]), rfl, e0⟩
    ·
      refine Go.of (fun _ k => XS.icmpYes X0.here hx rfl (pc0 := 9) (pc' := 32) rfl (hb hby own_hd9) rfl (flt hc9).2.1 (by decide) (by decide) k) ?_
      show Go p e below _ T0 (mkF m 32 #[.val (.ref a), .val (.int fr), .val (.int lo), .val (.int hi), .val (.long rank), .second, .val (.int q)] [])
      refine Go.of (fun _ k => XS.iconst X0.here hx rfl (hb hby own_hd32) k) ?_
      show Go p e below _ T0 (mkF m 33 #[.val (.ref a), .val (.int fr), .val (.int lo), .val (.int hi), .val (.long rank), .second, .val (.int q)] [(.int (0 : Int32))])
      exact Go.retN X0 hx hlk (t := .boolean) hret (by simp) (hb hby own_hd33) (by decide) (by decide) ⟨congrArg (fun z => some (Value.int z)) (show (0 : Int32) = own_holds (own_P bs fr rank) lo hi q by simp [own_holds, hc3, hc9]), rfl, e0⟩
theorem own_pd0 : decode prog_151_method_3_code 0 = .ok (.iload_n 2, 1) := by decide +kernel
theorem own_pd1 : decode prog_151_method_3_code 1 = .ok (.iload_n 3, 1) := by decide +kernel
theorem own_pd2 : decode prog_151_method_3_code 2 = .ok (.if_icmp .ge 40, 3) := by decide +kernel
theorem own_pd5 : decode prog_151_method_3_code 5 = .ok (.iload_n 2, 1) := by decide +kernel
theorem own_pd6 : decode prog_151_method_3_code 6 = .ok (.iload_n 3, 1) := by decide +kernel
theorem own_pd7 : decode prog_151_method_3_code 7 = .ok (.iadd, 1) := by decide +kernel
theorem own_pd8 : decode prog_151_method_3_code 8 = .ok (.iconst 1, 1) := by decide +kernel
theorem own_pd9 : decode prog_151_method_3_code 9 = .ok (.iushr, 1) := by decide +kernel
theorem own_pd10 : decode prog_151_method_3_code 10 = .ok (.istore 6, 2) := by decide +kernel
theorem own_pd12 : decode prog_151_method_3_code 12 = .ok (.aload_n 0, 1) := by decide +kernel
theorem own_pd13 : decode prog_151_method_3_code 13 = .ok (.iload 6, 2) := by decide +kernel
theorem own_pd15 : decode prog_151_method_3_code 15 = .ok (.iconst 1, 1) := by decide +kernel
theorem own_pd16 : decode prog_151_method_3_code 16 = .ok (.iadd, 1) := by decide +kernel
theorem own_pd17 : decode prog_151_method_3_code 17 = .ok (.laload, 1) := by decide +kernel
theorem own_pd18 : decode prog_151_method_3_code 18 = .ok (.aload_n 0, 1) := by decide +kernel
theorem own_pd19 : decode prog_151_method_3_code 19 = .ok (.iload_n 1, 1) := by decide +kernel
theorem own_pd20 : decode prog_151_method_3_code 20 = .ok (.laload, 1) := by decide +kernel
theorem own_pd21 : decode prog_151_method_3_code 21 = .ok (.lsub, 1) := by decide +kernel
theorem own_pd22 : decode prog_151_method_3_code 22 = .ok (.lload 4, 2) := by decide +kernel
theorem own_pd24 : decode prog_151_method_3_code 24 = .ok (.lcmp, 1) := by decide +kernel
theorem own_pd25 : decode prog_151_method_3_code 25 = .ok (.ifCond .le 9, 3) := by decide +kernel
theorem own_pd28 : decode prog_151_method_3_code 28 = .ok (.iload 6, 2) := by decide +kernel
theorem own_pd30 : decode prog_151_method_3_code 30 = .ok (.istore_n 3, 1) := by decide +kernel
theorem own_pd31 : decode prog_151_method_3_code 31 = .ok (.goto 8, 3) := by decide +kernel
theorem own_pd34 : decode prog_151_method_3_code 34 = .ok (.iload 6, 2) := by decide +kernel
theorem own_pd36 : decode prog_151_method_3_code 36 = .ok (.iconst 1, 1) := by decide +kernel
theorem own_pd37 : decode prog_151_method_3_code 37 = .ok (.iadd, 1) := by decide +kernel
theorem own_pd38 : decode prog_151_method_3_code 38 = .ok (.istore_n 2, 1) := by decide +kernel
theorem own_pd39 : decode prog_151_method_3_code 39 = .ok (.goto (-39), 3) := by decide +kernel
theorem own_pd42 : decode prog_151_method_3_code 42 = .ok (.iload_n 2, 1) := by decide +kernel
theorem own_pd43 : decode prog_151_method_3_code 43 = .ok (.ireturn, 1) := by decide +kernel
theorem own_pos10 {z0 : Value} {z1 : Value} {z2 : Value} {z3 : Value} {z4 : Value} {s6 : Slot} {v : Int32} (h : One s6) : storeLocals #[.val z0, .val z1, .val z2, .val z3, .val z4, .second, s6] 6 (.int v) = some #[.val z0, .val z1, .val z2, .val z3, .val z4, .second, .val (.int v)] := by
  rcases h with rfl | ⟨w, rfl, hw⟩
  · rfl
  · cases w <;> first | rfl | (simp [Value.category] at hw)
set_option maxRecDepth 65536 in
set_option maxHeartbeats 40000000 in
theorem own_rmR (l : Launch) (Z : State) (a0 : Array Value) (hw : ∀ d ∈ tables_1, d.before a0 Z = true) (a : Addr) (fr low high : Int32) (rank : Int64) (k : ClassId) (bs : List Int64) (h0 : Heap) (VA : Arv Z h0 a k .long 5 (bs.map Value.long) (.long 0)) (hfr : ¬ fr < 0 ∧ fr < 5) (hlo : 0 ≤ low.toInt) (hhi : high.toInt < 5) :
    MetFree l (⟨"com/example/joulepath/joulepath/core/powerlog/SortedMeans", "rankPlace", "([JIIIJ)I"⟩ : MethodName) (head1 [Jvm.Cond.code (⟨"com/example/joulepath/joulepath/core/powerlog/SortedMeans", "rankPlace", "([JIIIJ)I"⟩ : MethodName) prog_151_method_3_code 7 (some .int)] ({ frames := 0, cells := 0, slots := 0, locals := 0 } : Room)) (fun aa U => aa = #[(.ref a), (.int fr), (.int low), (.int high), (.long rank)] ∧ Z.Warmed39 U.vm ∧ U.heap = h0) (fun _ _ _ _ _ => True) (fun _ U o U' => ∃ v L, o = .returned v ∧ (PQ h0 (some (.int (own_bs 5 (own_P bs fr rank) low high)))) v U'.heap L ∧ FrameEnd U o U' L ({ frames := 0, cells := 0, slots := 0, locals := 0 } : Room).cells ({ frames := 0, cells := 0, slots := 0, locals := 0 } : Room).slots) := by
  refine goBody (y := (⟨"com/example/joulepath/joulepath/core/powerlog/SortedMeans", "rankPlace", "([JIIIJ)I"⟩ : MethodName)) (Q := PQ h0 (some (.int (own_bs 5 (own_P bs fr rank) low high)))) (plainFor_of_name (by first | (simp [plainName, overriddenIn]; done) | decide +kernel)) ?_
  intro p e s m below meth c T0 hx hZ hby hml hown hnm hret hlk X0 e0
  have hown : s.vm.findClass "com/example/joulepath/joulepath/core/powerlog/SortedMeans" = some m.cls := hown
  refine Go.cast (g' := mkF m 0 #[.val (.ref a), .val (.int fr), .val (.int low), .val (.int high), .val (.long rank), .second, .unset] []) (by first | (simp [entryFrame, mkF, argsToLocals, Value.category]; done) | rfl) ?_
  have loop : ∀ (n : Nat) (lo hi : Int32) (s6 : Slot), One s6 → 0 ≤ lo.toInt → hi.toInt < 5 → hi.toInt - lo.toInt ≤ (n : Int) → own_bs n (own_P bs fr rank) lo hi = own_bs 5 (own_P bs fr rank) low high → Go p e below (GoEnd s ({ frames := 0, cells := 0, slots := 0, locals := 0 } : Room).cells ({ frames := 0, cells := 0, slots := 0, locals := 0 } : Room).slots (PQ h0 (some (.int (own_bs 5 (own_P bs fr rank) low high))))) T0 (mkF m 0 #[.val (.ref a), .val (.int fr), .val (.int lo), .val (.int hi), .val (.long rank), .second, s6] []) := by
    intro n
    induction n with
    | zero =>
      intro lo hi s6 hs6 h1 h2 h3 h4
      show Go p e below _ T0 (mkF m 0 #[.val (.ref a), .val (.int fr), .val (.int lo), .val (.int hi), .val (.long rank), .second, s6] [])
      refine Go.of (fun _ k => XS.iloadN X0.here hx rfl (hb hby own_pd0) rfl k) ?_
      show Go p e below _ T0 (mkF m 1 #[.val (.ref a), .val (.int fr), .val (.int lo), .val (.int hi), .val (.long rank), .second, s6] [(.int lo)])
      refine Go.of (fun _ k => XS.iloadN X0.here hx rfl (hb hby own_pd1) rfl k) ?_
      show Go p e below _ T0 (mkF m 2 #[.val (.ref a), .val (.int fr), .val (.int lo), .val (.int hi), .val (.long rank), .second, s6] [(.int hi), (.int lo)])
      refine Go.of (fun _ k => XS.icmpYes X0.here hx rfl (pc0 := 2) (pc' := 42) rfl (hb hby own_pd2) rfl (flt (own_nlt h3)).2.1 (by decide) (by decide) k) ?_
      show Go p e below _ T0 (mkF m 42 #[.val (.ref a), .val (.int fr), .val (.int lo), .val (.int hi), .val (.long rank), .second, s6] [])
      refine Go.of (fun _ k => XS.iloadN X0.here hx rfl (hb hby own_pd42) rfl k) ?_
      show Go p e below _ T0 (mkF m 43 #[.val (.ref a), .val (.int fr), .val (.int lo), .val (.int hi), .val (.long rank), .second, s6] [(.int lo)])
      exact Go.retI X0 hx hlk hret (hb hby own_pd43) (by decide) (by decide) ⟨congrArg (fun z => some (Value.int z)) h4, rfl, e0⟩
    | succ n ih =>
      intro lo hi s6 hs6 h1 h2 h3 h4
      simp only [own_bs] at h4
      show Go p e below _ T0 (mkF m 0 #[.val (.ref a), .val (.int fr), .val (.int lo), .val (.int hi), .val (.long rank), .second, s6] [])
      refine Go.of (fun _ k => XS.iloadN X0.here hx rfl (hb hby own_pd0) rfl k) ?_
      show Go p e below _ T0 (mkF m 1 #[.val (.ref a), .val (.int fr), .val (.int lo), .val (.int hi), .val (.long rank), .second, s6] [(.int lo)])
      refine Go.of (fun _ k => XS.iloadN X0.here hx rfl (hb hby own_pd1) rfl k) ?_
      show Go p e below _ T0 (mkF m 2 #[.val (.ref a), .val (.int fr), .val (.int lo), .val (.int hi), .val (.long rank), .second, s6] [(.int hi), (.int lo)])
      by_cases hc2 : lo < hi
      ·
        refine Go.of (fun _ k => XS.icmpNo X0.here hx rfl (hb hby own_pd2) rfl (tlt hc2).2.1 k) ?_
        show Go p e below _ T0 (mkF m 5 #[.val (.ref a), .val (.int fr), .val (.int lo), .val (.int hi), .val (.long rank), .second, s6] [])
        refine Go.of (fun _ k => XS.iloadN X0.here hx rfl (hb hby own_pd5) rfl k) ?_
        show Go p e below _ T0 (mkF m 6 #[.val (.ref a), .val (.int fr), .val (.int lo), .val (.int hi), .val (.long rank), .second, s6] [(.int lo)])
        refine Go.of (fun _ k => XS.iloadN X0.here hx rfl (hb hby own_pd6) rfl k) ?_
        show Go p e below _ T0 (mkF m 7 #[.val (.ref a), .val (.int fr), .val (.int lo), .val (.int hi), .val (.long rank), .second, s6] [(.int hi), (.int lo)])
        refine Go.of (fun _ k => XS.iadd X0.here hx rfl (hb hby own_pd7) rfl k) ?_
        show Go p e below _ T0 (mkF m 8 #[.val (.ref a), .val (.int fr), .val (.int lo), .val (.int hi), .val (.long rank), .second, s6] [(.int (lo + hi))])
        refine Go.of (fun _ k => XS.iconst X0.here hx rfl (hb hby own_pd8) k) ?_
        show Go p e below _ T0 (mkF m 9 #[.val (.ref a), .val (.int fr), .val (.int lo), .val (.int hi), .val (.long rank), .second, s6] [(.int (1 : Int32)), (.int (lo + hi))])
        refine Go.of (fun _ k => XS.iushr X0.here hx rfl (hb hby own_pd9) rfl k) ?_
        show Go p e below _ T0 (mkF m 10 #[.val (.ref a), .val (.int fr), .val (.int lo), .val (.int hi), .val (.long rank), .second, s6] [(.int (XS.ushr (lo + hi) (1 : Int32)))])
        generalize h_mid : (XS.ushr (lo + hi) (1 : Int32)) = mid
        rw [h_mid, if_pos hc2] at h4
        obtain ⟨m1, m2⟩ := own_mid h1 hc2 h2 h_mid
        refine Go.of (fun _ k => XS.istore X0.here hx rfl (hb hby own_pd10) rfl (l' := #[.val (.ref a), .val (.int fr), .val (.int lo), .val (.int hi), .val (.long rank), .second, .val (.int mid)]) (own_pos10 hs6) k) ?_
        show Go p e below _ T0 (mkF m 12 #[.val (.ref a), .val (.int fr), .val (.int lo), .val (.int hi), .val (.long rank), .second, .val (.int mid)] [])
        refine Go.of (fun _ k => XS.aloadN X0.here hx rfl (hb hby own_pd12) rfl rfl k) ?_
        show Go p e below _ T0 (mkF m 13 #[.val (.ref a), .val (.int fr), .val (.int lo), .val (.int hi), .val (.long rank), .second, .val (.int mid)] [(.ref a)])
        refine Go.of (fun _ k => XS.iload X0.here hx rfl (hb hby own_pd13) rfl k) ?_
        show Go p e below _ T0 (mkF m 15 #[.val (.ref a), .val (.int fr), .val (.int lo), .val (.int hi), .val (.long rank), .second, .val (.int mid)] [(.int mid), (.ref a)])
        refine Go.of (fun _ k => XS.iconst X0.here hx rfl (hb hby own_pd15) k) ?_
        show Go p e below _ T0 (mkF m 16 #[.val (.ref a), .val (.int fr), .val (.int lo), .val (.int hi), .val (.long rank), .second, .val (.int mid)] [(.int (1 : Int32)), (.int mid), (.ref a)])
        refine Go.of (fun _ k => XS.iadd X0.here hx rfl (hb hby own_pd16) rfl k) ?_
        show Go p e below _ T0 (mkF m 17 #[.val (.ref a), .val (.int fr), .val (.int lo), .val (.int hi), .val (.long rank), .second, .val (.int mid)] [(.int (mid + (1 : Int32))), (.ref a)])
        refine Go.laload X0 hx hZ e0 VA (own_idx h1 m1 m2 h2) (v := (.long (bs.getD (mid + (1 : Int32)).toNatClampNeg 0))) own_at (hb hby own_pd17) ?_
        show Go p e below _ T0 (mkF m 18 #[.val (.ref a), .val (.int fr), .val (.int lo), .val (.int hi), .val (.long rank), .second, .val (.int mid)] [(.long (bs.getD (mid + (1 : Int32)).toNatClampNeg 0))])
        refine Go.of (fun _ k => XS.aloadN X0.here hx rfl (hb hby own_pd18) rfl rfl k) ?_
        show Go p e below _ T0 (mkF m 19 #[.val (.ref a), .val (.int fr), .val (.int lo), .val (.int hi), .val (.long rank), .second, .val (.int mid)] [(.ref a), (.long (bs.getD (mid + (1 : Int32)).toNatClampNeg 0))])
        refine Go.of (fun _ k => XS.iloadN X0.here hx rfl (hb hby own_pd19) rfl k) ?_
        show Go p e below _ T0 (mkF m 20 #[.val (.ref a), .val (.int fr), .val (.int lo), .val (.int hi), .val (.long rank), .second, .val (.int mid)] [(.int fr), (.ref a), (.long (bs.getD (mid + (1 : Int32)).toNatClampNeg 0))])
        refine Go.laload X0 hx hZ e0 VA hfr (v := (.long (bs.getD fr.toNatClampNeg 0))) own_at (hb hby own_pd20) ?_
        show Go p e below _ T0 (mkF m 21 #[.val (.ref a), .val (.int fr), .val (.int lo), .val (.int hi), .val (.long rank), .second, .val (.int mid)] [(.long (bs.getD fr.toNatClampNeg 0)), (.long (bs.getD (mid + (1 : Int32)).toNatClampNeg 0))])
        refine Go.of (fun _ k => XS.lsub X0.here hx rfl (hb hby own_pd21) rfl k) ?_
        show Go p e below _ T0 (mkF m 22 #[.val (.ref a), .val (.int fr), .val (.int lo), .val (.int hi), .val (.long rank), .second, .val (.int mid)] [(.long ((bs.getD (mid + (1 : Int32)).toNatClampNeg 0) - (bs.getD fr.toNatClampNeg 0)))])
        refine Go.of (fun _ k => XS.lload X0.here hx rfl (hb hby own_pd22) rfl k) ?_
        show Go p e below _ T0 (mkF m 24 #[.val (.ref a), .val (.int fr), .val (.int lo), .val (.int hi), .val (.long rank), .second, .val (.int mid)] [(.long rank), (.long ((bs.getD (mid + (1 : Int32)).toNatClampNeg 0) - (bs.getD fr.toNatClampNeg 0)))])
        refine Go.of (fun _ k => XS.lcmp X0.here hx rfl (hb hby own_pd24) rfl k) ?_
        show Go p e below _ T0 (mkF m 25 #[.val (.ref a), .val (.int fr), .val (.int lo), .val (.int hi), .val (.long rank), .second, .val (.int mid)] [(.int (XS.cmpL ((bs.getD (mid + (1 : Int32)).toNatClampNeg 0) - (bs.getD fr.toNatClampNeg 0)) rank))])
        by_cases hc25 : (0 : Int32) < (XS.cmpL ((bs.getD (mid + (1 : Int32)).toNatClampNeg 0) - (bs.getD fr.toNatClampNeg 0)) rank)
        ·
          refine Go.of (fun _ k => XS.ifNo X0.here hx rfl (hb hby own_pd25) rfl ((if0 _ _).trans (tlt hc25).2.2.2) k) ?_
          show Go p e below _ T0 (mkF m 28 #[.val (.ref a), .val (.int fr), .val (.int lo), .val (.int hi), .val (.long rank), .second, .val (.int mid)] [])
          refine Go.of (fun _ k => XS.iload X0.here hx rfl (hb hby own_pd28) rfl k) ?_
          show Go p e below _ T0 (mkF m 30 #[.val (.ref a), .val (.int fr), .val (.int lo), .val (.int hi), .val (.long rank), .second, .val (.int mid)] [(.int mid)])
          refine Go.of (fun _ k => XS.istoreN X0.here hx rfl (hb hby own_pd30) rfl (l' := #[.val (.ref a), .val (.int fr), .val (.int lo), .val (.int mid), .val (.long rank), .second, .val (.int mid)]) rfl k) ?_
          show Go p e below _ T0 (mkF m 31 #[.val (.ref a), .val (.int fr), .val (.int lo), .val (.int mid), .val (.long rank), .second, .val (.int mid)] [])
          refine Go.of (fun _ k => XS.goto X0.here hx rfl (pc0 := 31) (pc' := 39) rfl (hb hby own_pd31) (by decide) (by decide) k) ?_
          show Go p e below _ T0 (mkF m 39 #[.val (.ref a), .val (.int fr), .val (.int lo), .val (.int mid), .val (.long rank), .second, .val (.int mid)] [])
          refine Go.of (fun _ k => XS.goto X0.here hx rfl (pc0 := 39) (pc' := 0) rfl (hb hby own_pd39) (by decide) (by decide) k) ?_
          show Go p e below _ T0 (mkF m 0 #[.val (.ref a), .val (.int fr), .val (.int lo), .val (.int mid), .val (.long rank), .second, .val (.int mid)] [])
          exact ih lo mid _ (One.val rfl) h1 (by omega) (by omega) (by rw [if_pos (by simp only [own_P]; exact decide_eq_true hc25)] at h4; exact h4)
        ·
          refine Go.of (fun _ k => XS.ifYes X0.here hx rfl (pc0 := 25) (pc' := 34) rfl (hb hby own_pd25) rfl ((if0 _ _).trans (flt hc25).2.2.2) (by decide) (by decide) k) ?_
          show Go p e below _ T0 (mkF m 34 #[.val (.ref a), .val (.int fr), .val (.int lo), .val (.int hi), .val (.long rank), .second, .val (.int mid)] [])
          refine Go.of (fun _ k => XS.iload X0.here hx rfl (hb hby own_pd34) rfl k) ?_
          show Go p e below _ T0 (mkF m 36 #[.val (.ref a), .val (.int fr), .val (.int lo), .val (.int hi), .val (.long rank), .second, .val (.int mid)] [(.int mid)])
          refine Go.of (fun _ k => XS.iconst X0.here hx rfl (hb hby own_pd36) k) ?_
          show Go p e below _ T0 (mkF m 37 #[.val (.ref a), .val (.int fr), .val (.int lo), .val (.int hi), .val (.long rank), .second, .val (.int mid)] [(.int (1 : Int32)), (.int mid)])
          refine Go.of (fun _ k => XS.iadd X0.here hx rfl (hb hby own_pd37) rfl k) ?_
          show Go p e below _ T0 (mkF m 38 #[.val (.ref a), .val (.int fr), .val (.int lo), .val (.int hi), .val (.long rank), .second, .val (.int mid)] [(.int (mid + (1 : Int32)))])
          refine Go.of (fun _ k => XS.istoreN X0.here hx rfl (hb hby own_pd38) rfl (l' := #[.val (.ref a), .val (.int fr), .val (.int (mid + (1 : Int32))), .val (.int hi), .val (.long rank), .second, .val (.int mid)]) rfl k) ?_
          show Go p e below _ T0 (mkF m 39 #[.val (.ref a), .val (.int fr), .val (.int (mid + (1 : Int32))), .val (.int hi), .val (.long rank), .second, .val (.int mid)] [])
          refine Go.of (fun _ k => XS.goto X0.here hx rfl (pc0 := 39) (pc' := 0) rfl (hb hby own_pd39) (by decide) (by decide) k) ?_
          show Go p e below _ T0 (mkF m 0 #[.val (.ref a), .val (.int fr), .val (.int (mid + (1 : Int32))), .val (.int hi), .val (.long rank), .second, .val (.int mid)] [])
          exact ih (mid + 1) hi _ (One.val rfl) (by rw [own_up m2 h2 (by omega)]; omega) h2 (by rw [own_up m2 h2 (by omega)]; omega) (by rw [if_neg (by simp only [own_P]; exact fun q => hc25 (of_decide_eq_true q))] at h4; exact h4)
      ·
        refine Go.of (fun _ k => XS.icmpYes X0.here hx rfl (pc0 := 2) (pc' := 42) rfl (hb hby own_pd2) rfl (flt hc2).2.1 (by decide) (by decide) k) ?_
        show Go p e below _ T0 (mkF m 42 #[.val (.ref a), .val (.int fr), .val (.int lo), .val (.int hi), .val (.long rank), .second, s6] [])
        refine Go.of (fun _ k => XS.iloadN X0.here hx rfl (hb hby own_pd42) rfl k) ?_
        show Go p e below _ T0 (mkF m 43 #[.val (.ref a), .val (.int fr), .val (.int lo), .val (.int hi), .val (.long rank), .second, s6] [(.int lo)])
        exact Go.retI X0 hx hlk hret (hb hby own_pd43) (by decide) (by decide) ⟨congrArg (fun z => some (Value.int z)) (by rw [if_neg hc2] at h4; exact h4), rfl, e0⟩
  exact loop 5 low high .unset One.u hlo hhi (by omega) rfl
set_option maxRecDepth 65536 in
set_option maxHeartbeats 40000000 in
theorem rm0 (l : Launch) (Z : State) (a0 : Array Value) (hw : ∀ d ∈ tables_1, d.before a0 Z = true) (ws : List Jvm.Cond) (base incs : Int64) (bounds : Int32) (rank : Int64) (h0 : Heap)  :
    MetFree l x (head1 (Jvm.Cond.code x code maxLocals ret :: ws) room_1) (fun aa U => aa = #[(.long base), (.long incs), (.int bounds), (.long rank)] ∧ Z.Warmed39 U.vm ∧ U.heap = h0) (fun _ _ _ _ _ => True) (fun _ U o U' => ∃ v L, o = .returned v ∧ (fun v _ L => v = some (.int 1) ∧ Fr h0.size L) v U'.heap L ∧ FrameEnd U o U' L room_1.cells room_1.slots) := by
  refine goBody (y := x) (Q := fun v _ L => v = some (.int 1) ∧ Fr h0.size L) (plainFor_of_name (by first | (simp [plainName, overriddenIn]; done) | decide +kernel)) ?_
  intro p e s m below meth c T0 hx hZ hby hml hown hnm hret hlk X0 e0
  have hown : s.vm.findClass "com/example/joulepath/joulepath/core/powerlog/SortedMeansRankPlacePinLaw" = some m.cls := hown
  have hml : c.maxLocals = 12 := hml
  refine Go.cast (g' := mkF m 0 #[.val (.long base), .second, .val (.long incs), .second, .val (.int bounds), .val (.long rank), .second, .unset, .unset, .unset, .unset, .unset] []) (by first | (simp [entryFrame, mkF, argsToLocals, Value.category, maxLocals]; done) | rfl) ?_
  show Go p e below _ T0 (mkF m 0 #[.val (.long base), .second, .val (.long incs), .second, .val (.int bounds), .val (.long rank), .second, .unset, .unset, .unset, .unset, .unset] [])
  refine Go.of (fun _ k => XS.iconst X0.here hx rfl (hb hby at_0) k) ?_
  show Go p e below _ T0 (mkF m 1 #[.val (.long base), .second, .val (.long incs), .second, .val (.int bounds), .val (.long rank), .second, .unset, .unset, .unset, .unset, .unset] [(.int (5 : Int32))])
  refine Go.newarr X0 hx hZ (hw _ (List.mem_of_getElem? (i := 0) rfl)) e0 5 (by decide) (by decide) (by decide) (by decide) (by decide) (hb hby at_1) fun T1 h1 b1 k1 g1 X1 e1 E1 V1 => ?_
  have ge_b1 : h0.size ≤ b1 := g1 ▸ (Nat.le_refl _)
  have sz1 : h0.size ≤ h1.size := Nat.le_trans (Nat.le_refl _) E1.1
  have V1 : Arv Z h1 b1 k1 .long (5 : Int32) [(.long (0 : Int64)), (.long (0 : Int64)), (.long (0 : Int64)), (.long (0 : Int64)), (.long (0 : Int64))] (.long (0 : Int64)) := V1
  show Go p e below _ T1 (mkF m 3 #[.val (.long base), .second, .val (.long incs), .second, .val (.int bounds), .val (.long rank), .second, .unset, .unset, .unset, .unset, .unset] [(.ref b1)])
  refine Go.of (fun _ k => XS.astore X1.here hx rfl (hb hby at_3) rfl rfl (l' := #[.val (.long base), .second, .val (.long incs), .second, .val (.int bounds), .val (.long rank), .second, .val (.ref b1), .unset, .unset, .unset, .unset]) rfl k) ?_
  show Go p e below _ T1 (mkF m 5 #[.val (.long base), .second, .val (.long incs), .second, .val (.int bounds), .val (.long rank), .second, .val (.ref b1), .unset, .unset, .unset, .unset] [])
  refine Go.of (fun _ k => XS.aload X1.here hx rfl (hb hby at_5) rfl rfl k) ?_
  show Go p e below _ T1 (mkF m 7 #[.val (.long base), .second, .val (.long incs), .second, .val (.int bounds), .val (.long rank), .second, .val (.ref b1), .unset, .unset, .unset, .unset] [(.ref b1)])
  refine Go.of (fun _ k => XS.iconst X1.here hx rfl (hb hby at_7) k) ?_
  show Go p e below _ T1 (mkF m 8 #[.val (.long base), .second, .val (.long incs), .second, .val (.int bounds), .val (.long rank), .second, .val (.ref b1), .unset, .unset, .unset, .unset] [(.int (0 : Int32)), (.ref b1)])
  refine Go.of (fun _ k => XS.lloadN X1.here hx rfl (hb hby at_8) rfl k) ?_
  show Go p e below _ T1 (mkF m 9 #[.val (.long base), .second, .val (.long incs), .second, .val (.int bounds), .val (.long rank), .second, .val (.ref b1), .unset, .unset, .unset, .unset] [(.long base), (.int (0 : Int32)), (.ref b1)])
  refine Go.of (X1.ldc2Long hx hown (mvT hZ (hw _ (List.mem_of_getElem? (i := 1) rfl))) (g := (mkF m 9 #[.val (.long base), .second, .val (.long incs), .second, .val (.int bounds), .val (.long rank), .second, .val (.ref b1), .unset, .unset, .unset, .unset] [(.long base), (.int (0 : Int32)), (.ref b1)])) rfl (hb hby at_9)) ?_
  show Go p e below _ T1 (mkF m 12 #[.val (.long base), .second, .val (.long incs), .second, .val (.int bounds), .val (.long rank), .second, .val (.ref b1), .unset, .unset, .unset, .unset] [(.long (4611686018427387903 : Int64)), (.long base), (.int (0 : Int32)), (.ref b1)])
  refine Go.of (fun _ k => XS.land X1.here hx rfl (hb hby at_12) rfl k) ?_
  show Go p e below _ T1 (mkF m 13 #[.val (.long base), .second, .val (.long incs), .second, .val (.int bounds), .val (.long rank), .second, .val (.ref b1), .unset, .unset, .unset, .unset] [(.long (base &&& (4611686018427387903 : Int64))), (.int (0 : Int32)), (.ref b1)])
  generalize h_c0 : (base &&& (4611686018427387903 : Int64)) = c0
  have hb0 := own_b0 h_c0
  refine Go.lastore X1 hx hZ e1 V1 ⟨by decide, by decide⟩ 0 rfl (Nat.le_of_ble_eq_true rfl) (hb hby at_13) fun T2 h2 X2 e2 W2 V2 => ?_
  have sz2 : h0.size ≤ h2.size := Nat.le_trans sz1 (Keep.of_wr W2).1
  have N2 := Fr.snoc X2 (Fr.nil _) ge_b1
  have V2 : Arv Z h2 b1 k1 .long (5 : Int32) [(.long c0), (.long (0 : Int64)), (.long (0 : Int64)), (.long (0 : Int64)), (.long (0 : Int64))] (.long (0 : Int64)) := V2
  show Go p e below _ T2 (mkF m 14 #[.val (.long base), .second, .val (.long incs), .second, .val (.int bounds), .val (.long rank), .second, .val (.ref b1), .unset, .unset, .unset, .unset] [])
  refine Go.of (fun _ k => XS.aload X2.here hx rfl (hb hby at_14) rfl rfl k) ?_
  show Go p e below _ T2 (mkF m 16 #[.val (.long base), .second, .val (.long incs), .second, .val (.int bounds), .val (.long rank), .second, .val (.ref b1), .unset, .unset, .unset, .unset] [(.ref b1)])
  refine Go.of (fun _ k => XS.iconst X2.here hx rfl (hb hby at_16) k) ?_
  show Go p e below _ T2 (mkF m 17 #[.val (.long base), .second, .val (.long incs), .second, .val (.int bounds), .val (.long rank), .second, .val (.ref b1), .unset, .unset, .unset, .unset] [(.int (1 : Int32)), (.ref b1)])
  refine Go.of (fun _ k => XS.aload X2.here hx rfl (hb hby at_17) rfl rfl k) ?_
  show Go p e below _ T2 (mkF m 19 #[.val (.long base), .second, .val (.long incs), .second, .val (.int bounds), .val (.long rank), .second, .val (.ref b1), .unset, .unset, .unset, .unset] [(.ref b1), (.int (1 : Int32)), (.ref b1)])
  refine Go.of (fun _ k => XS.iconst X2.here hx rfl (hb hby at_19) k) ?_
  show Go p e below _ T2 (mkF m 20 #[.val (.long base), .second, .val (.long incs), .second, .val (.int bounds), .val (.long rank), .second, .val (.ref b1), .unset, .unset, .unset, .unset] [(.int (0 : Int32)), (.ref b1), (.int (1 : Int32)), (.ref b1)])
  refine Go.laload X2 hx hZ e2 V2 ⟨by decide, by decide⟩ (v := (.long c0)) rfl (hb hby at_20) ?_
  show Go p e below _ T2 (mkF m 21 #[.val (.long base), .second, .val (.long incs), .second, .val (.int bounds), .val (.long rank), .second, .val (.ref b1), .unset, .unset, .unset, .unset] [(.long c0), (.int (1 : Int32)), (.ref b1)])
  refine Go.of (fun _ k => XS.lloadN X2.here hx rfl (hb hby at_21) rfl k) ?_
  show Go p e below _ T2 (mkF m 22 #[.val (.long base), .second, .val (.long incs), .second, .val (.int bounds), .val (.long rank), .second, .val (.ref b1), .unset, .unset, .unset, .unset] [(.long incs), (.long c0), (.int (1 : Int32)), (.ref b1)])
  refine Go.of (X2.ldc2Long hx hown (mvT hZ (hw _ (List.mem_of_getElem? (i := 2) rfl))) (g := (mkF m 22 #[.val (.long base), .second, .val (.long incs), .second, .val (.int bounds), .val (.long rank), .second, .val (.ref b1), .unset, .unset, .unset, .unset] [(.long incs), (.long c0), (.int (1 : Int32)), (.ref b1)])) rfl (hb hby at_22)) ?_
  show Go p e below _ T2 (mkF m 25 #[.val (.long base), .second, .val (.long incs), .second, .val (.int bounds), .val (.long rank), .second, .val (.ref b1), .unset, .unset, .unset, .unset] [(.long (65535 : Int64)), (.long incs), (.long c0), (.int (1 : Int32)), (.ref b1)])
  refine Go.of (fun _ k => XS.land X2.here hx rfl (hb hby at_25) rfl k) ?_
  show Go p e below _ T2 (mkF m 26 #[.val (.long base), .second, .val (.long incs), .second, .val (.int bounds), .val (.long rank), .second, .val (.ref b1), .unset, .unset, .unset, .unset] [(.long (incs &&& (65535 : Int64))), (.long c0), (.int (1 : Int32)), (.ref b1)])
  refine Go.of (fun _ k => XS.ladd X2.here hx rfl (hb hby at_26) rfl k) ?_
  show Go p e below _ T2 (mkF m 27 #[.val (.long base), .second, .val (.long incs), .second, .val (.int bounds), .val (.long rank), .second, .val (.ref b1), .unset, .unset, .unset, .unset] [(.long (c0 + (incs &&& (65535 : Int64)))), (.int (1 : Int32)), (.ref b1)])
  generalize h_c1 : (c0 + (incs &&& (65535 : Int64))) = c1
  have hb1 := own_bn (k := 0) h_c1 (by omega) (by omega)
  refine Go.lastore X2 hx hZ e2 V2 ⟨by decide, by decide⟩ 1 rfl (Nat.le_of_ble_eq_true rfl) (hb hby at_27) fun T3 h3 X3 e3 W3 V3 => ?_
  have sz3 : h0.size ≤ h3.size := Nat.le_trans sz2 (Keep.of_wr W3).1
  have N3 := Fr.snoc X3 N2 ge_b1
  have V3 : Arv Z h3 b1 k1 .long (5 : Int32) [(.long c0), (.long c1), (.long (0 : Int64)), (.long (0 : Int64)), (.long (0 : Int64))] (.long (0 : Int64)) := V3
  show Go p e below _ T3 (mkF m 28 #[.val (.long base), .second, .val (.long incs), .second, .val (.int bounds), .val (.long rank), .second, .val (.ref b1), .unset, .unset, .unset, .unset] [])
  refine Go.of (fun _ k => XS.aload X3.here hx rfl (hb hby at_28) rfl rfl k) ?_
  show Go p e below _ T3 (mkF m 30 #[.val (.long base), .second, .val (.long incs), .second, .val (.int bounds), .val (.long rank), .second, .val (.ref b1), .unset, .unset, .unset, .unset] [(.ref b1)])
  refine Go.of (fun _ k => XS.iconst X3.here hx rfl (hb hby at_30) k) ?_
  show Go p e below _ T3 (mkF m 31 #[.val (.long base), .second, .val (.long incs), .second, .val (.int bounds), .val (.long rank), .second, .val (.ref b1), .unset, .unset, .unset, .unset] [(.int (2 : Int32)), (.ref b1)])
  refine Go.of (fun _ k => XS.aload X3.here hx rfl (hb hby at_31) rfl rfl k) ?_
  show Go p e below _ T3 (mkF m 33 #[.val (.long base), .second, .val (.long incs), .second, .val (.int bounds), .val (.long rank), .second, .val (.ref b1), .unset, .unset, .unset, .unset] [(.ref b1), (.int (2 : Int32)), (.ref b1)])
  refine Go.of (fun _ k => XS.iconst X3.here hx rfl (hb hby at_33) k) ?_
  show Go p e below _ T3 (mkF m 34 #[.val (.long base), .second, .val (.long incs), .second, .val (.int bounds), .val (.long rank), .second, .val (.ref b1), .unset, .unset, .unset, .unset] [(.int (1 : Int32)), (.ref b1), (.int (2 : Int32)), (.ref b1)])
  refine Go.laload X3 hx hZ e3 V3 ⟨by decide, by decide⟩ (v := (.long c1)) rfl (hb hby at_34) ?_
  show Go p e below _ T3 (mkF m 35 #[.val (.long base), .second, .val (.long incs), .second, .val (.int bounds), .val (.long rank), .second, .val (.ref b1), .unset, .unset, .unset, .unset] [(.long c1), (.int (2 : Int32)), (.ref b1)])
  refine Go.of (fun _ k => XS.lloadN X3.here hx rfl (hb hby at_35) rfl k) ?_
  show Go p e below _ T3 (mkF m 36 #[.val (.long base), .second, .val (.long incs), .second, .val (.int bounds), .val (.long rank), .second, .val (.ref b1), .unset, .unset, .unset, .unset] [(.long incs), (.long c1), (.int (2 : Int32)), (.ref b1)])
  refine Go.of (fun _ k => XS.bipush X3.here hx rfl (hb hby at_36) k) ?_
  show Go p e below _ T3 (mkF m 38 #[.val (.long base), .second, .val (.long incs), .second, .val (.int bounds), .val (.long rank), .second, .val (.ref b1), .unset, .unset, .unset, .unset] [(.int (16 : Int32)), (.long incs), (.long c1), (.int (2 : Int32)), (.ref b1)])
  refine Go.of (fun _ k => XS.lushr X3.here hx rfl (hb hby at_38) rfl k) ?_
  show Go p e below _ T3 (mkF m 39 #[.val (.long base), .second, .val (.long incs), .second, .val (.int bounds), .val (.long rank), .second, .val (.ref b1), .unset, .unset, .unset, .unset] [(.long ((incs.toUInt64 >>> ((16 : Int32) &&& 0x3f).toInt64.toUInt64).toInt64)), (.long c1), (.int (2 : Int32)), (.ref b1)])
  refine Go.of (X3.ldc2Long hx hown (mvT hZ (hw _ (List.mem_of_getElem? (i := 2) rfl))) (g := (mkF m 39 #[.val (.long base), .second, .val (.long incs), .second, .val (.int bounds), .val (.long rank), .second, .val (.ref b1), .unset, .unset, .unset, .unset] [(.long ((incs.toUInt64 >>> ((16 : Int32) &&& 0x3f).toInt64.toUInt64).toInt64)), (.long c1), (.int (2 : Int32)), (.ref b1)])) rfl (hb hby at_39)) ?_
  show Go p e below _ T3 (mkF m 42 #[.val (.long base), .second, .val (.long incs), .second, .val (.int bounds), .val (.long rank), .second, .val (.ref b1), .unset, .unset, .unset, .unset] [(.long (65535 : Int64)), (.long ((incs.toUInt64 >>> ((16 : Int32) &&& 0x3f).toInt64.toUInt64).toInt64)), (.long c1), (.int (2 : Int32)), (.ref b1)])
  refine Go.of (fun _ k => XS.land X3.here hx rfl (hb hby at_42) rfl k) ?_
  show Go p e below _ T3 (mkF m 43 #[.val (.long base), .second, .val (.long incs), .second, .val (.int bounds), .val (.long rank), .second, .val (.ref b1), .unset, .unset, .unset, .unset] [(.long (((incs.toUInt64 >>> ((16 : Int32) &&& 0x3f).toInt64.toUInt64).toInt64) &&& (65535 : Int64))), (.long c1), (.int (2 : Int32)), (.ref b1)])
  refine Go.of (fun _ k => XS.ladd X3.here hx rfl (hb hby at_43) rfl k) ?_
  show Go p e below _ T3 (mkF m 44 #[.val (.long base), .second, .val (.long incs), .second, .val (.int bounds), .val (.long rank), .second, .val (.ref b1), .unset, .unset, .unset, .unset] [(.long (c1 + (((incs.toUInt64 >>> ((16 : Int32) &&& 0x3f).toInt64.toUInt64).toInt64) &&& (65535 : Int64)))), (.int (2 : Int32)), (.ref b1)])
  generalize h_c2 : (c1 + (((incs.toUInt64 >>> ((16 : Int32) &&& 0x3f).toInt64.toUInt64).toInt64) &&& (65535 : Int64))) = c2
  have hb2 := own_bn (k := 1) h_c2 (by omega) (by omega)
  refine Go.lastore X3 hx hZ e3 V3 ⟨by decide, by decide⟩ 2 rfl (Nat.le_of_ble_eq_true rfl) (hb hby at_44) fun T4 h4 X4 e4 W4 V4 => ?_
  have sz4 : h0.size ≤ h4.size := Nat.le_trans sz3 (Keep.of_wr W4).1
  have N4 := Fr.snoc X4 N3 ge_b1
  have V4 : Arv Z h4 b1 k1 .long (5 : Int32) [(.long c0), (.long c1), (.long c2), (.long (0 : Int64)), (.long (0 : Int64))] (.long (0 : Int64)) := V4
  show Go p e below _ T4 (mkF m 45 #[.val (.long base), .second, .val (.long incs), .second, .val (.int bounds), .val (.long rank), .second, .val (.ref b1), .unset, .unset, .unset, .unset] [])
  refine Go.of (fun _ k => XS.aload X4.here hx rfl (hb hby at_45) rfl rfl k) ?_
  show Go p e below _ T4 (mkF m 47 #[.val (.long base), .second, .val (.long incs), .second, .val (.int bounds), .val (.long rank), .second, .val (.ref b1), .unset, .unset, .unset, .unset] [(.ref b1)])
  refine Go.of (fun _ k => XS.iconst X4.here hx rfl (hb hby at_47) k) ?_
  show Go p e below _ T4 (mkF m 48 #[.val (.long base), .second, .val (.long incs), .second, .val (.int bounds), .val (.long rank), .second, .val (.ref b1), .unset, .unset, .unset, .unset] [(.int (3 : Int32)), (.ref b1)])
  refine Go.of (fun _ k => XS.aload X4.here hx rfl (hb hby at_48) rfl rfl k) ?_
  show Go p e below _ T4 (mkF m 50 #[.val (.long base), .second, .val (.long incs), .second, .val (.int bounds), .val (.long rank), .second, .val (.ref b1), .unset, .unset, .unset, .unset] [(.ref b1), (.int (3 : Int32)), (.ref b1)])
  refine Go.of (fun _ k => XS.iconst X4.here hx rfl (hb hby at_50) k) ?_
  show Go p e below _ T4 (mkF m 51 #[.val (.long base), .second, .val (.long incs), .second, .val (.int bounds), .val (.long rank), .second, .val (.ref b1), .unset, .unset, .unset, .unset] [(.int (2 : Int32)), (.ref b1), (.int (3 : Int32)), (.ref b1)])
  refine Go.laload X4 hx hZ e4 V4 ⟨by decide, by decide⟩ (v := (.long c2)) rfl (hb hby at_51) ?_
  show Go p e below _ T4 (mkF m 52 #[.val (.long base), .second, .val (.long incs), .second, .val (.int bounds), .val (.long rank), .second, .val (.ref b1), .unset, .unset, .unset, .unset] [(.long c2), (.int (3 : Int32)), (.ref b1)])
  refine Go.of (fun _ k => XS.lloadN X4.here hx rfl (hb hby at_52) rfl k) ?_
  show Go p e below _ T4 (mkF m 53 #[.val (.long base), .second, .val (.long incs), .second, .val (.int bounds), .val (.long rank), .second, .val (.ref b1), .unset, .unset, .unset, .unset] [(.long incs), (.long c2), (.int (3 : Int32)), (.ref b1)])
  refine Go.of (fun _ k => XS.bipush X4.here hx rfl (hb hby at_53) k) ?_
  show Go p e below _ T4 (mkF m 55 #[.val (.long base), .second, .val (.long incs), .second, .val (.int bounds), .val (.long rank), .second, .val (.ref b1), .unset, .unset, .unset, .unset] [(.int (32 : Int32)), (.long incs), (.long c2), (.int (3 : Int32)), (.ref b1)])
  refine Go.of (fun _ k => XS.lushr X4.here hx rfl (hb hby at_55) rfl k) ?_
  show Go p e below _ T4 (mkF m 56 #[.val (.long base), .second, .val (.long incs), .second, .val (.int bounds), .val (.long rank), .second, .val (.ref b1), .unset, .unset, .unset, .unset] [(.long ((incs.toUInt64 >>> ((32 : Int32) &&& 0x3f).toInt64.toUInt64).toInt64)), (.long c2), (.int (3 : Int32)), (.ref b1)])
  refine Go.of (X4.ldc2Long hx hown (mvT hZ (hw _ (List.mem_of_getElem? (i := 2) rfl))) (g := (mkF m 56 #[.val (.long base), .second, .val (.long incs), .second, .val (.int bounds), .val (.long rank), .second, .val (.ref b1), .unset, .unset, .unset, .unset] [(.long ((incs.toUInt64 >>> ((32 : Int32) &&& 0x3f).toInt64.toUInt64).toInt64)), (.long c2), (.int (3 : Int32)), (.ref b1)])) rfl (hb hby at_56)) ?_
  show Go p e below _ T4 (mkF m 59 #[.val (.long base), .second, .val (.long incs), .second, .val (.int bounds), .val (.long rank), .second, .val (.ref b1), .unset, .unset, .unset, .unset] [(.long (65535 : Int64)), (.long ((incs.toUInt64 >>> ((32 : Int32) &&& 0x3f).toInt64.toUInt64).toInt64)), (.long c2), (.int (3 : Int32)), (.ref b1)])
  refine Go.of (fun _ k => XS.land X4.here hx rfl (hb hby at_59) rfl k) ?_
  show Go p e below _ T4 (mkF m 60 #[.val (.long base), .second, .val (.long incs), .second, .val (.int bounds), .val (.long rank), .second, .val (.ref b1), .unset, .unset, .unset, .unset] [(.long (((incs.toUInt64 >>> ((32 : Int32) &&& 0x3f).toInt64.toUInt64).toInt64) &&& (65535 : Int64))), (.long c2), (.int (3 : Int32)), (.ref b1)])
  refine Go.of (fun _ k => XS.ladd X4.here hx rfl (hb hby at_60) rfl k) ?_
  show Go p e below _ T4 (mkF m 61 #[.val (.long base), .second, .val (.long incs), .second, .val (.int bounds), .val (.long rank), .second, .val (.ref b1), .unset, .unset, .unset, .unset] [(.long (c2 + (((incs.toUInt64 >>> ((32 : Int32) &&& 0x3f).toInt64.toUInt64).toInt64) &&& (65535 : Int64)))), (.int (3 : Int32)), (.ref b1)])
  generalize h_c3 : (c2 + (((incs.toUInt64 >>> ((32 : Int32) &&& 0x3f).toInt64.toUInt64).toInt64) &&& (65535 : Int64))) = c3
  have hb3 := own_bn (k := 2) h_c3 (by omega) (by omega)
  refine Go.lastore X4 hx hZ e4 V4 ⟨by decide, by decide⟩ 3 rfl (Nat.le_of_ble_eq_true rfl) (hb hby at_61) fun T5 h5 X5 e5 W5 V5 => ?_
  have sz5 : h0.size ≤ h5.size := Nat.le_trans sz4 (Keep.of_wr W5).1
  have N5 := Fr.snoc X5 N4 ge_b1
  have V5 : Arv Z h5 b1 k1 .long (5 : Int32) [(.long c0), (.long c1), (.long c2), (.long c3), (.long (0 : Int64))] (.long (0 : Int64)) := V5
  show Go p e below _ T5 (mkF m 62 #[.val (.long base), .second, .val (.long incs), .second, .val (.int bounds), .val (.long rank), .second, .val (.ref b1), .unset, .unset, .unset, .unset] [])
  refine Go.of (fun _ k => XS.aload X5.here hx rfl (hb hby at_62) rfl rfl k) ?_
  show Go p e below _ T5 (mkF m 64 #[.val (.long base), .second, .val (.long incs), .second, .val (.int bounds), .val (.long rank), .second, .val (.ref b1), .unset, .unset, .unset, .unset] [(.ref b1)])
  refine Go.of (fun _ k => XS.iconst X5.here hx rfl (hb hby at_64) k) ?_
  show Go p e below _ T5 (mkF m 65 #[.val (.long base), .second, .val (.long incs), .second, .val (.int bounds), .val (.long rank), .second, .val (.ref b1), .unset, .unset, .unset, .unset] [(.int (4 : Int32)), (.ref b1)])
  refine Go.of (fun _ k => XS.aload X5.here hx rfl (hb hby at_65) rfl rfl k) ?_
  show Go p e below _ T5 (mkF m 67 #[.val (.long base), .second, .val (.long incs), .second, .val (.int bounds), .val (.long rank), .second, .val (.ref b1), .unset, .unset, .unset, .unset] [(.ref b1), (.int (4 : Int32)), (.ref b1)])
  refine Go.of (fun _ k => XS.iconst X5.here hx rfl (hb hby at_67) k) ?_
  show Go p e below _ T5 (mkF m 68 #[.val (.long base), .second, .val (.long incs), .second, .val (.int bounds), .val (.long rank), .second, .val (.ref b1), .unset, .unset, .unset, .unset] [(.int (3 : Int32)), (.ref b1), (.int (4 : Int32)), (.ref b1)])
  refine Go.laload X5 hx hZ e5 V5 ⟨by decide, by decide⟩ (v := (.long c3)) rfl (hb hby at_68) ?_
  show Go p e below _ T5 (mkF m 69 #[.val (.long base), .second, .val (.long incs), .second, .val (.int bounds), .val (.long rank), .second, .val (.ref b1), .unset, .unset, .unset, .unset] [(.long c3), (.int (4 : Int32)), (.ref b1)])
  refine Go.of (fun _ k => XS.lloadN X5.here hx rfl (hb hby at_69) rfl k) ?_
  show Go p e below _ T5 (mkF m 70 #[.val (.long base), .second, .val (.long incs), .second, .val (.int bounds), .val (.long rank), .second, .val (.ref b1), .unset, .unset, .unset, .unset] [(.long incs), (.long c3), (.int (4 : Int32)), (.ref b1)])
  refine Go.of (fun _ k => XS.bipush X5.here hx rfl (hb hby at_70) k) ?_
  show Go p e below _ T5 (mkF m 72 #[.val (.long base), .second, .val (.long incs), .second, .val (.int bounds), .val (.long rank), .second, .val (.ref b1), .unset, .unset, .unset, .unset] [(.int (48 : Int32)), (.long incs), (.long c3), (.int (4 : Int32)), (.ref b1)])
  refine Go.of (fun _ k => XS.lushr X5.here hx rfl (hb hby at_72) rfl k) ?_
  show Go p e below _ T5 (mkF m 73 #[.val (.long base), .second, .val (.long incs), .second, .val (.int bounds), .val (.long rank), .second, .val (.ref b1), .unset, .unset, .unset, .unset] [(.long ((incs.toUInt64 >>> ((48 : Int32) &&& 0x3f).toInt64.toUInt64).toInt64)), (.long c3), (.int (4 : Int32)), (.ref b1)])
  refine Go.of (X5.ldc2Long hx hown (mvT hZ (hw _ (List.mem_of_getElem? (i := 2) rfl))) (g := (mkF m 73 #[.val (.long base), .second, .val (.long incs), .second, .val (.int bounds), .val (.long rank), .second, .val (.ref b1), .unset, .unset, .unset, .unset] [(.long ((incs.toUInt64 >>> ((48 : Int32) &&& 0x3f).toInt64.toUInt64).toInt64)), (.long c3), (.int (4 : Int32)), (.ref b1)])) rfl (hb hby at_73)) ?_
  show Go p e below _ T5 (mkF m 76 #[.val (.long base), .second, .val (.long incs), .second, .val (.int bounds), .val (.long rank), .second, .val (.ref b1), .unset, .unset, .unset, .unset] [(.long (65535 : Int64)), (.long ((incs.toUInt64 >>> ((48 : Int32) &&& 0x3f).toInt64.toUInt64).toInt64)), (.long c3), (.int (4 : Int32)), (.ref b1)])
  refine Go.of (fun _ k => XS.land X5.here hx rfl (hb hby at_76) rfl k) ?_
  show Go p e below _ T5 (mkF m 77 #[.val (.long base), .second, .val (.long incs), .second, .val (.int bounds), .val (.long rank), .second, .val (.ref b1), .unset, .unset, .unset, .unset] [(.long (((incs.toUInt64 >>> ((48 : Int32) &&& 0x3f).toInt64.toUInt64).toInt64) &&& (65535 : Int64))), (.long c3), (.int (4 : Int32)), (.ref b1)])
  refine Go.of (fun _ k => XS.ladd X5.here hx rfl (hb hby at_77) rfl k) ?_
  show Go p e below _ T5 (mkF m 78 #[.val (.long base), .second, .val (.long incs), .second, .val (.int bounds), .val (.long rank), .second, .val (.ref b1), .unset, .unset, .unset, .unset] [(.long (c3 + (((incs.toUInt64 >>> ((48 : Int32) &&& 0x3f).toInt64.toUInt64).toInt64) &&& (65535 : Int64)))), (.int (4 : Int32)), (.ref b1)])
  generalize h_c4 : (c3 + (((incs.toUInt64 >>> ((48 : Int32) &&& 0x3f).toInt64.toUInt64).toInt64) &&& (65535 : Int64))) = c4
  have hb4 := own_bn (k := 3) h_c4 (by omega) (by omega)
  refine Go.lastore X5 hx hZ e5 V5 ⟨by decide, by decide⟩ 4 rfl (Nat.le_of_ble_eq_true rfl) (hb hby at_78) fun T6 h6 X6 e6 W6 V6 => ?_
  have sz6 : h0.size ≤ h6.size := Nat.le_trans sz5 (Keep.of_wr W6).1
  have N6 := Fr.snoc X6 N5 ge_b1
  have V6 : Arv Z h6 b1 k1 .long (5 : Int32) [(.long c0), (.long c1), (.long c2), (.long c3), (.long c4)] (.long (0 : Int64)) := V6
  show Go p e below _ T6 (mkF m 79 #[.val (.long base), .second, .val (.long incs), .second, .val (.int bounds), .val (.long rank), .second, .val (.ref b1), .unset, .unset, .unset, .unset] [])
  refine Go.of (fun _ k => XS.iload X6.here hx rfl (hb hby at_79) rfl k) ?_
  show Go p e below _ T6 (mkF m 81 #[.val (.long base), .second, .val (.long incs), .second, .val (.int bounds), .val (.long rank), .second, .val (.ref b1), .unset, .unset, .unset, .unset] [(.int bounds)])
  refine Go.of (fun _ k => XS.bipush X6.here hx rfl (hb hby at_81) k) ?_
  show Go p e below _ T6 (mkF m 83 #[.val (.long base), .second, .val (.long incs), .second, .val (.int bounds), .val (.long rank), .second, .val (.ref b1), .unset, .unset, .unset, .unset] [(.int (7 : Int32)), (.int bounds)])
  refine Go.of (fun _ k => XS.iand X6.here hx rfl (hb hby at_83) rfl k) ?_
  show Go p e below _ T6 (mkF m 84 #[.val (.long base), .second, .val (.long incs), .second, .val (.int bounds), .val (.long rank), .second, .val (.ref b1), .unset, .unset, .unset, .unset] [(.int (bounds &&& (7 : Int32)))])
  refine Go.of (fun _ k => XS.iconst X6.here hx rfl (hb hby at_84) k) ?_
  show Go p e below _ T6 (mkF m 85 #[.val (.long base), .second, .val (.long incs), .second, .val (.int bounds), .val (.long rank), .second, .val (.ref b1), .unset, .unset, .unset, .unset] [(.int (5 : Int32)), (.int (bounds &&& (7 : Int32)))])
  refine Go.of (fun _ k => iremM X6 hx rfl (hb hby at_85) rfl (by decide) k) ?_
  show Go p e below _ T6 (mkF m 86 #[.val (.long base), .second, .val (.long incs), .second, .val (.int bounds), .val (.long rank), .second, .val (.ref b1), .unset, .unset, .unset, .unset] [(.int ((bounds &&& (7 : Int32)) % (5 : Int32)))])
  generalize h_fr : ((bounds &&& (7 : Int32)) % (5 : Int32)) = fr
  have hf := own_fr h_fr
  refine Go.of (fun _ k => XS.istore X6.here hx rfl (hb hby at_86) rfl (l' := #[.val (.long base), .second, .val (.long incs), .second, .val (.int bounds), .val (.long rank), .second, .val (.ref b1), .val (.int fr), .unset, .unset, .unset]) rfl k) ?_
  show Go p e below _ T6 (mkF m 88 #[.val (.long base), .second, .val (.long incs), .second, .val (.int bounds), .val (.long rank), .second, .val (.ref b1), .val (.int fr), .unset, .unset, .unset] [])
  refine Go.of (fun _ k => XS.iload X6.here hx rfl (hb hby at_88) rfl k) ?_
  show Go p e below _ T6 (mkF m 90 #[.val (.long base), .second, .val (.long incs), .second, .val (.int bounds), .val (.long rank), .second, .val (.ref b1), .val (.int fr), .unset, .unset, .unset] [(.int fr)])
  refine Go.of (fun _ k => XS.iload X6.here hx rfl (hb hby at_90) rfl k) ?_
  show Go p e below _ T6 (mkF m 92 #[.val (.long base), .second, .val (.long incs), .second, .val (.int bounds), .val (.long rank), .second, .val (.ref b1), .val (.int fr), .unset, .unset, .unset] [(.int bounds), (.int fr)])
  refine Go.of (fun _ k => XS.iconst X6.here hx rfl (hb hby at_92) k) ?_
  show Go p e below _ T6 (mkF m 93 #[.val (.long base), .second, .val (.long incs), .second, .val (.int bounds), .val (.long rank), .second, .val (.ref b1), .val (.int fr), .unset, .unset, .unset] [(.int (3 : Int32)), (.int bounds), (.int fr)])
  refine Go.of (fun _ k => XS.iushr X6.here hx rfl (hb hby at_93) rfl k) ?_
  show Go p e below _ T6 (mkF m 94 #[.val (.long base), .second, .val (.long incs), .second, .val (.int bounds), .val (.long rank), .second, .val (.ref b1), .val (.int fr), .unset, .unset, .unset] [(.int (XS.ushr bounds (3 : Int32))), (.int fr)])
  refine Go.of (fun _ k => XS.bipush X6.here hx rfl (hb hby at_94) k) ?_
  show Go p e below _ T6 (mkF m 96 #[.val (.long base), .second, .val (.long incs), .second, .val (.int bounds), .val (.long rank), .second, .val (.ref b1), .val (.int fr), .unset, .unset, .unset] [(.int (7 : Int32)), (.int (XS.ushr bounds (3 : Int32))), (.int fr)])
  refine Go.of (fun _ k => XS.iand X6.here hx rfl (hb hby at_96) rfl k) ?_
  show Go p e below _ T6 (mkF m 97 #[.val (.long base), .second, .val (.long incs), .second, .val (.int bounds), .val (.long rank), .second, .val (.ref b1), .val (.int fr), .unset, .unset, .unset] [(.int ((XS.ushr bounds (3 : Int32)) &&& (7 : Int32))), (.int fr)])
  refine Go.of (fun _ k => XS.iconst X6.here hx rfl (hb hby at_97) k) ?_
  show Go p e below _ T6 (mkF m 98 #[.val (.long base), .second, .val (.long incs), .second, .val (.int bounds), .val (.long rank), .second, .val (.ref b1), .val (.int fr), .unset, .unset, .unset] [(.int (5 : Int32)), (.int ((XS.ushr bounds (3 : Int32)) &&& (7 : Int32))), (.int fr)])
  refine Go.of (fun _ k => XS.iload X6.here hx rfl (hb hby at_98) rfl k) ?_
  show Go p e below _ T6 (mkF m 100 #[.val (.long base), .second, .val (.long incs), .second, .val (.int bounds), .val (.long rank), .second, .val (.ref b1), .val (.int fr), .unset, .unset, .unset] [(.int fr), (.int (5 : Int32)), (.int ((XS.ushr bounds (3 : Int32)) &&& (7 : Int32))), (.int fr)])
  refine Go.of (fun _ k => XS.isub X6.here hx rfl (hb hby at_100) rfl k) ?_
  show Go p e below _ T6 (mkF m 101 #[.val (.long base), .second, .val (.long incs), .second, .val (.int bounds), .val (.long rank), .second, .val (.ref b1), .val (.int fr), .unset, .unset, .unset] [(.int ((5 : Int32) - fr)), (.int ((XS.ushr bounds (3 : Int32)) &&& (7 : Int32))), (.int fr)])
  refine Go.of (fun _ k => iremM X6 hx rfl (hb hby at_101) rfl (own_nz hf) k) ?_
  show Go p e below _ T6 (mkF m 102 #[.val (.long base), .second, .val (.long incs), .second, .val (.int bounds), .val (.long rank), .second, .val (.ref b1), .val (.int fr), .unset, .unset, .unset] [(.int (((XS.ushr bounds (3 : Int32)) &&& (7 : Int32)) % ((5 : Int32) - fr))), (.int fr)])
  refine Go.of (fun _ k => XS.iadd X6.here hx rfl (hb hby at_102) rfl k) ?_
  show Go p e below _ T6 (mkF m 103 #[.val (.long base), .second, .val (.long incs), .second, .val (.int bounds), .val (.long rank), .second, .val (.ref b1), .val (.int fr), .unset, .unset, .unset] [(.int (fr + (((XS.ushr bounds (3 : Int32)) &&& (7 : Int32)) % ((5 : Int32) - fr))))])
  generalize h_lo : (fr + (((XS.ushr bounds (3 : Int32)) &&& (7 : Int32)) % ((5 : Int32) - fr))) = lo
  have hl := own_step hf h_lo
  refine Go.of (fun _ k => XS.istore X6.here hx rfl (hb hby at_103) rfl (l' := #[.val (.long base), .second, .val (.long incs), .second, .val (.int bounds), .val (.long rank), .second, .val (.ref b1), .val (.int fr), .val (.int lo), .unset, .unset]) rfl k) ?_
  show Go p e below _ T6 (mkF m 105 #[.val (.long base), .second, .val (.long incs), .second, .val (.int bounds), .val (.long rank), .second, .val (.ref b1), .val (.int fr), .val (.int lo), .unset, .unset] [])
  refine Go.of (fun _ k => XS.iload X6.here hx rfl (hb hby at_105) rfl k) ?_
  show Go p e below _ T6 (mkF m 107 #[.val (.long base), .second, .val (.long incs), .second, .val (.int bounds), .val (.long rank), .second, .val (.ref b1), .val (.int fr), .val (.int lo), .unset, .unset] [(.int lo)])
  refine Go.of (fun _ k => XS.iload X6.here hx rfl (hb hby at_107) rfl k) ?_
  show Go p e below _ T6 (mkF m 109 #[.val (.long base), .second, .val (.long incs), .second, .val (.int bounds), .val (.long rank), .second, .val (.ref b1), .val (.int fr), .val (.int lo), .unset, .unset] [(.int bounds), (.int lo)])
  refine Go.of (fun _ k => XS.bipush X6.here hx rfl (hb hby at_109) k) ?_
  show Go p e below _ T6 (mkF m 111 #[.val (.long base), .second, .val (.long incs), .second, .val (.int bounds), .val (.long rank), .second, .val (.ref b1), .val (.int fr), .val (.int lo), .unset, .unset] [(.int (6 : Int32)), (.int bounds), (.int lo)])
  refine Go.of (fun _ k => XS.iushr X6.here hx rfl (hb hby at_111) rfl k) ?_
  show Go p e below _ T6 (mkF m 112 #[.val (.long base), .second, .val (.long incs), .second, .val (.int bounds), .val (.long rank), .second, .val (.ref b1), .val (.int fr), .val (.int lo), .unset, .unset] [(.int (XS.ushr bounds (6 : Int32))), (.int lo)])
  refine Go.of (fun _ k => XS.bipush X6.here hx rfl (hb hby at_112) k) ?_
  show Go p e below _ T6 (mkF m 114 #[.val (.long base), .second, .val (.long incs), .second, .val (.int bounds), .val (.long rank), .second, .val (.ref b1), .val (.int fr), .val (.int lo), .unset, .unset] [(.int (7 : Int32)), (.int (XS.ushr bounds (6 : Int32))), (.int lo)])
  refine Go.of (fun _ k => XS.iand X6.here hx rfl (hb hby at_114) rfl k) ?_
  show Go p e below _ T6 (mkF m 115 #[.val (.long base), .second, .val (.long incs), .second, .val (.int bounds), .val (.long rank), .second, .val (.ref b1), .val (.int fr), .val (.int lo), .unset, .unset] [(.int ((XS.ushr bounds (6 : Int32)) &&& (7 : Int32))), (.int lo)])
  refine Go.of (fun _ k => XS.iconst X6.here hx rfl (hb hby at_115) k) ?_
  show Go p e below _ T6 (mkF m 116 #[.val (.long base), .second, .val (.long incs), .second, .val (.int bounds), .val (.long rank), .second, .val (.ref b1), .val (.int fr), .val (.int lo), .unset, .unset] [(.int (5 : Int32)), (.int ((XS.ushr bounds (6 : Int32)) &&& (7 : Int32))), (.int lo)])
  refine Go.of (fun _ k => XS.iload X6.here hx rfl (hb hby at_116) rfl k) ?_
  show Go p e below _ T6 (mkF m 118 #[.val (.long base), .second, .val (.long incs), .second, .val (.int bounds), .val (.long rank), .second, .val (.ref b1), .val (.int fr), .val (.int lo), .unset, .unset] [(.int lo), (.int (5 : Int32)), (.int ((XS.ushr bounds (6 : Int32)) &&& (7 : Int32))), (.int lo)])
  refine Go.of (fun _ k => XS.isub X6.here hx rfl (hb hby at_118) rfl k) ?_
  show Go p e below _ T6 (mkF m 119 #[.val (.long base), .second, .val (.long incs), .second, .val (.int bounds), .val (.long rank), .second, .val (.ref b1), .val (.int fr), .val (.int lo), .unset, .unset] [(.int ((5 : Int32) - lo)), (.int ((XS.ushr bounds (6 : Int32)) &&& (7 : Int32))), (.int lo)])
  refine Go.of (fun _ k => iremM X6 hx rfl (hb hby at_119) rfl (own_nz (by omega)) k) ?_
  show Go p e below _ T6 (mkF m 120 #[.val (.long base), .second, .val (.long incs), .second, .val (.int bounds), .val (.long rank), .second, .val (.ref b1), .val (.int fr), .val (.int lo), .unset, .unset] [(.int (((XS.ushr bounds (6 : Int32)) &&& (7 : Int32)) % ((5 : Int32) - lo))), (.int lo)])
  refine Go.of (fun _ k => XS.iadd X6.here hx rfl (hb hby at_120) rfl k) ?_
  show Go p e below _ T6 (mkF m 121 #[.val (.long base), .second, .val (.long incs), .second, .val (.int bounds), .val (.long rank), .second, .val (.ref b1), .val (.int fr), .val (.int lo), .unset, .unset] [(.int (lo + (((XS.ushr bounds (6 : Int32)) &&& (7 : Int32)) % ((5 : Int32) - lo))))])
  generalize h_hi : (lo + (((XS.ushr bounds (6 : Int32)) &&& (7 : Int32)) % ((5 : Int32) - lo))) = hi
  have hh := own_step (fr := lo) (by omega) h_hi
  refine Go.of (fun _ k => XS.istore X6.here hx rfl (hb hby at_121) rfl (l' := #[.val (.long base), .second, .val (.long incs), .second, .val (.int bounds), .val (.long rank), .second, .val (.ref b1), .val (.int fr), .val (.int lo), .val (.int hi), .unset]) rfl k) ?_
  show Go p e below _ T6 (mkF m 123 #[.val (.long base), .second, .val (.long incs), .second, .val (.int bounds), .val (.long rank), .second, .val (.ref b1), .val (.int fr), .val (.int lo), .val (.int hi), .unset] [])
  refine Go.of (fun _ k => XS.iload X6.here hx rfl (hb hby at_123) rfl k) ?_
  show Go p e below _ T6 (mkF m 125 #[.val (.long base), .second, .val (.long incs), .second, .val (.int bounds), .val (.long rank), .second, .val (.ref b1), .val (.int fr), .val (.int lo), .val (.int hi), .unset] [(.int hi)])
  refine Go.of (fun _ k => XS.istore X6.here hx rfl (hb hby at_125) rfl (l' := #[.val (.long base), .second, .val (.long incs), .second, .val (.int bounds), .val (.long rank), .second, .val (.ref b1), .val (.int fr), .val (.int lo), .val (.int hi), .val (.int hi)]) rfl k) ?_
  show Go p e below _ T6 (mkF m 127 #[.val (.long base), .second, .val (.long incs), .second, .val (.int bounds), .val (.long rank), .second, .val (.ref b1), .val (.int fr), .val (.int lo), .val (.int hi), .val (.int hi)] [])
  refine Go.of (fun _ k => XS.aload X6.here hx rfl (hb hby at_127) rfl rfl k) ?_
  show Go p e below _ T6 (mkF m 129 #[.val (.long base), .second, .val (.long incs), .second, .val (.int bounds), .val (.long rank), .second, .val (.ref b1), .val (.int fr), .val (.int lo), .val (.int hi), .val (.int hi)] [(.ref b1)])
  refine Go.of (fun _ k => XS.iload X6.here hx rfl (hb hby at_129) rfl k) ?_
  show Go p e below _ T6 (mkF m 131 #[.val (.long base), .second, .val (.long incs), .second, .val (.int bounds), .val (.long rank), .second, .val (.ref b1), .val (.int fr), .val (.int lo), .val (.int hi), .val (.int hi)] [(.int fr), (.ref b1)])
  refine Go.of (fun _ k => XS.iload X6.here hx rfl (hb hby at_131) rfl k) ?_
  show Go p e below _ T6 (mkF m 133 #[.val (.long base), .second, .val (.long incs), .second, .val (.int bounds), .val (.long rank), .second, .val (.ref b1), .val (.int fr), .val (.int lo), .val (.int hi), .val (.int hi)] [(.int lo), (.int fr), (.ref b1)])
  refine Go.of (fun _ k => XS.iload X6.here hx rfl (hb hby at_133) rfl k) ?_
  show Go p e below _ T6 (mkF m 135 #[.val (.long base), .second, .val (.long incs), .second, .val (.int bounds), .val (.long rank), .second, .val (.ref b1), .val (.int fr), .val (.int lo), .val (.int hi), .val (.int hi)] [(.int hi), (.int lo), (.int fr), (.ref b1)])
  refine Go.of (fun _ k => XS.lload X6.here hx rfl (hb hby at_135) rfl k) ?_
  show Go p e below _ T6 (mkF m 137 #[.val (.long base), .second, .val (.long incs), .second, .val (.int bounds), .val (.long rank), .second, .val (.ref b1), .val (.int fr), .val (.int lo), .val (.int hi), .val (.int hi)] [(.long rank), (.int hi), (.int lo), (.int fr), (.ref b1)])
  refine Go.of (fun _ k => XS.iconst X6.here hx rfl (hb hby at_137) k) ?_
  show Go p e below _ T6 (mkF m 138 #[.val (.long base), .second, .val (.long incs), .second, .val (.int bounds), .val (.long rank), .second, .val (.ref b1), .val (.int fr), .val (.int lo), .val (.int hi), .val (.int hi)] [(.int (3 : Int32)), (.long rank), (.int hi), (.int lo), (.int fr), (.ref b1)])
  refine Go.callSP (W := 0) (y := (⟨"com/example/joulepath/joulepath/core/powerlog/SortedMeansRankPlacePinLaw", "holds", "([JIIIJI)Z"⟩ : MethodName)) (argsL := [(.ref b1), (.int fr), (.int lo), (.int hi), (.long rank), (.int (3 : Int32))]) (rest := []) (r := some (.int (own_holds (own_P [c0, c1, c2, c3, c4] fr rank) lo hi (3 : Int32)))) X6 hx hZ hown (hw _ (List.mem_of_getElem? (i := 3) rfl)) (hw _ (List.mem_of_getElem? (i := 4) rfl)) (hw _ (List.mem_of_getElem? (i := 5) rfl)) (hw _ (List.mem_of_getElem? (i := 6) rfl)) (by decide) (own_rmH l Z a0 hw b1 fr lo hi rank (3 : Int32) k1 [c0, c1, c2, c3, c4] h6 V6 ⟨own_nn hf.1, own_lt5 hf.2⟩ (by omega) hh.2) e6 (by rw [hml]; rfl) (lenOf own_dsc0 rfl) (hb hby at_138) rfl (Nat.le_of_eq rfl) (by decide) (by decide) (by decide) (by decide) fun T7 X7 e7 => ?_
  show Go p e below _ T7 (mkF m 141 #[.val (.long base), .second, .val (.long incs), .second, .val (.int bounds), .val (.long rank), .second, .val (.ref b1), .val (.int fr), .val (.int lo), .val (.int hi), .val (.int hi)] [(.int (own_holds (own_P [c0, c1, c2, c3, c4] fr rank) lo hi (3 : Int32)))])
  suffices km141 : ∀ (u3 : Int32), u3 = (if (own_holds (own_P [c0, c1, c2, c3, c4] fr rank) lo hi (3 : Int32)) = (0 : Int32) then hi else (3 : Int32)) → Go p e below (GoEnd s room_1.cells room_1.slots (fun v _ L => v = some (.int 1) ∧ Fr h0.size L)) T7 (mkF m 147 #[.val (.long base), .second, .val (.long incs), .second, .val (.int bounds), .val (.long rank), .second, .val (.ref b1), .val (.int fr), .val (.int lo), .val (.int hi), .val (.int u3)] []) by
    by_cases hc141 : (own_holds (own_P [c0, c1, c2, c3, c4] fr rank) lo hi (3 : Int32)) = (0 : Int32)
    ·
      refine Go.of (fun _ k => XS.ifYes X7.here hx rfl (pc0 := 141) (pc' := 147) rfl (hb hby at_141) rfl ((if0 _ _).trans (teq hc141).1) (by decide) (by decide) k) ?_
      show Go p e below _ T7 (mkF m 147 #[.val (.long base), .second, .val (.long incs), .second, .val (.int bounds), .val (.long rank), .second, .val (.ref b1), .val (.int fr), .val (.int lo), .val (.int hi), .val (.int hi)] [])
      exact km141 _ (if_pos hc141).symm
    ·
      refine Go.of (fun _ k => XS.ifNo X7.here hx rfl (hb hby at_141) rfl ((if0 _ _).trans (feq hc141).1) k) ?_
      show Go p e below _ T7 (mkF m 144 #[.val (.long base), .second, .val (.long incs), .second, .val (.int bounds), .val (.long rank), .second, .val (.ref b1), .val (.int fr), .val (.int lo), .val (.int hi), .val (.int hi)] [])
      refine Go.of (fun _ k => XS.iconst X7.here hx rfl (hb hby at_144) k) ?_
      show Go p e below _ T7 (mkF m 145 #[.val (.long base), .second, .val (.long incs), .second, .val (.int bounds), .val (.long rank), .second, .val (.ref b1), .val (.int fr), .val (.int lo), .val (.int hi), .val (.int hi)] [(.int (3 : Int32))])
      refine Go.of (fun _ k => XS.istore X7.here hx rfl (hb hby at_145) rfl (l' := #[.val (.long base), .second, .val (.long incs), .second, .val (.int bounds), .val (.long rank), .second, .val (.ref b1), .val (.int fr), .val (.int lo), .val (.int hi), .val (.int (3 : Int32))]) rfl k) ?_
      show Go p e below _ T7 (mkF m 147 #[.val (.long base), .second, .val (.long incs), .second, .val (.int bounds), .val (.long rank), .second, .val (.ref b1), .val (.int fr), .val (.int lo), .val (.int hi), .val (.int (3 : Int32))] [])
      exact km141 _ (if_neg hc141).symm
  intro u3 hu_u3
  show Go p e below _ T7 (mkF m 147 #[.val (.long base), .second, .val (.long incs), .second, .val (.int bounds), .val (.long rank), .second, .val (.ref b1), .val (.int fr), .val (.int lo), .val (.int hi), .val (.int u3)] [])
  refine Go.of (fun _ k => XS.aload X7.here hx rfl (hb hby at_147) rfl rfl k) ?_
  show Go p e below _ T7 (mkF m 149 #[.val (.long base), .second, .val (.long incs), .second, .val (.int bounds), .val (.long rank), .second, .val (.ref b1), .val (.int fr), .val (.int lo), .val (.int hi), .val (.int u3)] [(.ref b1)])
  refine Go.of (fun _ k => XS.iload X7.here hx rfl (hb hby at_149) rfl k) ?_
  show Go p e below _ T7 (mkF m 151 #[.val (.long base), .second, .val (.long incs), .second, .val (.int bounds), .val (.long rank), .second, .val (.ref b1), .val (.int fr), .val (.int lo), .val (.int hi), .val (.int u3)] [(.int fr), (.ref b1)])
  refine Go.of (fun _ k => XS.iload X7.here hx rfl (hb hby at_151) rfl k) ?_
  show Go p e below _ T7 (mkF m 153 #[.val (.long base), .second, .val (.long incs), .second, .val (.int bounds), .val (.long rank), .second, .val (.ref b1), .val (.int fr), .val (.int lo), .val (.int hi), .val (.int u3)] [(.int lo), (.int fr), (.ref b1)])
  refine Go.of (fun _ k => XS.iload X7.here hx rfl (hb hby at_153) rfl k) ?_
  show Go p e below _ T7 (mkF m 155 #[.val (.long base), .second, .val (.long incs), .second, .val (.int bounds), .val (.long rank), .second, .val (.ref b1), .val (.int fr), .val (.int lo), .val (.int hi), .val (.int u3)] [(.int hi), (.int lo), (.int fr), (.ref b1)])
  refine Go.of (fun _ k => XS.lload X7.here hx rfl (hb hby at_155) rfl k) ?_
  show Go p e below _ T7 (mkF m 157 #[.val (.long base), .second, .val (.long incs), .second, .val (.int bounds), .val (.long rank), .second, .val (.ref b1), .val (.int fr), .val (.int lo), .val (.int hi), .val (.int u3)] [(.long rank), (.int hi), (.int lo), (.int fr), (.ref b1)])
  refine Go.of (fun _ k => XS.iconst X7.here hx rfl (hb hby at_157) k) ?_
  show Go p e below _ T7 (mkF m 158 #[.val (.long base), .second, .val (.long incs), .second, .val (.int bounds), .val (.long rank), .second, .val (.ref b1), .val (.int fr), .val (.int lo), .val (.int hi), .val (.int u3)] [(.int (2 : Int32)), (.long rank), (.int hi), (.int lo), (.int fr), (.ref b1)])
  refine Go.callSP (W := 0) (y := (⟨"com/example/joulepath/joulepath/core/powerlog/SortedMeansRankPlacePinLaw", "holds", "([JIIIJI)Z"⟩ : MethodName)) (argsL := [(.ref b1), (.int fr), (.int lo), (.int hi), (.long rank), (.int (2 : Int32))]) (rest := []) (r := some (.int (own_holds (own_P [c0, c1, c2, c3, c4] fr rank) lo hi (2 : Int32)))) X7 hx hZ hown (hw _ (List.mem_of_getElem? (i := 3) rfl)) (hw _ (List.mem_of_getElem? (i := 4) rfl)) (hw _ (List.mem_of_getElem? (i := 5) rfl)) (hw _ (List.mem_of_getElem? (i := 6) rfl)) (by decide) (own_rmH l Z a0 hw b1 fr lo hi rank (2 : Int32) k1 [c0, c1, c2, c3, c4] h6 V6 ⟨own_nn hf.1, own_lt5 hf.2⟩ (by omega) hh.2) e7 (by rw [hml]; rfl) (lenOf own_dsc0 rfl) (hb hby at_158) rfl (Nat.le_of_eq rfl) (by decide) (by decide) (by decide) (by decide) fun T8 X8 e8 => ?_
  show Go p e below _ T8 (mkF m 161 #[.val (.long base), .second, .val (.long incs), .second, .val (.int bounds), .val (.long rank), .second, .val (.ref b1), .val (.int fr), .val (.int lo), .val (.int hi), .val (.int u3)] [(.int (own_holds (own_P [c0, c1, c2, c3, c4] fr rank) lo hi (2 : Int32)))])
  suffices km161 : ∀ (u2 : Int32), u2 = (if (own_holds (own_P [c0, c1, c2, c3, c4] fr rank) lo hi (2 : Int32)) = (0 : Int32) then u3 else (2 : Int32)) → Go p e below (GoEnd s room_1.cells room_1.slots (fun v _ L => v = some (.int 1) ∧ Fr h0.size L)) T8 (mkF m 167 #[.val (.long base), .second, .val (.long incs), .second, .val (.int bounds), .val (.long rank), .second, .val (.ref b1), .val (.int fr), .val (.int lo), .val (.int hi), .val (.int u2)] []) by
    by_cases hc161 : (own_holds (own_P [c0, c1, c2, c3, c4] fr rank) lo hi (2 : Int32)) = (0 : Int32)
    ·
      refine Go.of (fun _ k => XS.ifYes X8.here hx rfl (pc0 := 161) (pc' := 167) rfl (hb hby at_161) rfl ((if0 _ _).trans (teq hc161).1) (by decide) (by decide) k) ?_
      show Go p e below _ T8 (mkF m 167 #[.val (.long base), .second, .val (.long incs), .second, .val (.int bounds), .val (.long rank), .second, .val (.ref b1), .val (.int fr), .val (.int lo), .val (.int hi), .val (.int u3)] [])
      exact km161 _ (if_pos hc161).symm
    ·
      refine Go.of (fun _ k => XS.ifNo X8.here hx rfl (hb hby at_161) rfl ((if0 _ _).trans (feq hc161).1) k) ?_
      show Go p e below _ T8 (mkF m 164 #[.val (.long base), .second, .val (.long incs), .second, .val (.int bounds), .val (.long rank), .second, .val (.ref b1), .val (.int fr), .val (.int lo), .val (.int hi), .val (.int u3)] [])
      refine Go.of (fun _ k => XS.iconst X8.here hx rfl (hb hby at_164) k) ?_
      show Go p e below _ T8 (mkF m 165 #[.val (.long base), .second, .val (.long incs), .second, .val (.int bounds), .val (.long rank), .second, .val (.ref b1), .val (.int fr), .val (.int lo), .val (.int hi), .val (.int u3)] [(.int (2 : Int32))])
      refine Go.of (fun _ k => XS.istore X8.here hx rfl (hb hby at_165) rfl (l' := #[.val (.long base), .second, .val (.long incs), .second, .val (.int bounds), .val (.long rank), .second, .val (.ref b1), .val (.int fr), .val (.int lo), .val (.int hi), .val (.int (2 : Int32))]) rfl k) ?_
      show Go p e below _ T8 (mkF m 167 #[.val (.long base), .second, .val (.long incs), .second, .val (.int bounds), .val (.long rank), .second, .val (.ref b1), .val (.int fr), .val (.int lo), .val (.int hi), .val (.int (2 : Int32))] [])
      exact km161 _ (if_neg hc161).symm
  intro u2 hu_u2
  show Go p e below _ T8 (mkF m 167 #[.val (.long base), .second, .val (.long incs), .second, .val (.int bounds), .val (.long rank), .second, .val (.ref b1), .val (.int fr), .val (.int lo), .val (.int hi), .val (.int u2)] [])
  refine Go.of (fun _ k => XS.aload X8.here hx rfl (hb hby at_167) rfl rfl k) ?_
  show Go p e below _ T8 (mkF m 169 #[.val (.long base), .second, .val (.long incs), .second, .val (.int bounds), .val (.long rank), .second, .val (.ref b1), .val (.int fr), .val (.int lo), .val (.int hi), .val (.int u2)] [(.ref b1)])
  refine Go.of (fun _ k => XS.iload X8.here hx rfl (hb hby at_169) rfl k) ?_
  show Go p e below _ T8 (mkF m 171 #[.val (.long base), .second, .val (.long incs), .second, .val (.int bounds), .val (.long rank), .second, .val (.ref b1), .val (.int fr), .val (.int lo), .val (.int hi), .val (.int u2)] [(.int fr), (.ref b1)])
  refine Go.of (fun _ k => XS.iload X8.here hx rfl (hb hby at_171) rfl k) ?_
  show Go p e below _ T8 (mkF m 173 #[.val (.long base), .second, .val (.long incs), .second, .val (.int bounds), .val (.long rank), .second, .val (.ref b1), .val (.int fr), .val (.int lo), .val (.int hi), .val (.int u2)] [(.int lo), (.int fr), (.ref b1)])
  refine Go.of (fun _ k => XS.iload X8.here hx rfl (hb hby at_173) rfl k) ?_
  show Go p e below _ T8 (mkF m 175 #[.val (.long base), .second, .val (.long incs), .second, .val (.int bounds), .val (.long rank), .second, .val (.ref b1), .val (.int fr), .val (.int lo), .val (.int hi), .val (.int u2)] [(.int hi), (.int lo), (.int fr), (.ref b1)])
  refine Go.of (fun _ k => XS.lload X8.here hx rfl (hb hby at_175) rfl k) ?_
  show Go p e below _ T8 (mkF m 177 #[.val (.long base), .second, .val (.long incs), .second, .val (.int bounds), .val (.long rank), .second, .val (.ref b1), .val (.int fr), .val (.int lo), .val (.int hi), .val (.int u2)] [(.long rank), (.int hi), (.int lo), (.int fr), (.ref b1)])
  refine Go.of (fun _ k => XS.iconst X8.here hx rfl (hb hby at_177) k) ?_
  show Go p e below _ T8 (mkF m 178 #[.val (.long base), .second, .val (.long incs), .second, .val (.int bounds), .val (.long rank), .second, .val (.ref b1), .val (.int fr), .val (.int lo), .val (.int hi), .val (.int u2)] [(.int (1 : Int32)), (.long rank), (.int hi), (.int lo), (.int fr), (.ref b1)])
  refine Go.callSP (W := 0) (y := (⟨"com/example/joulepath/joulepath/core/powerlog/SortedMeansRankPlacePinLaw", "holds", "([JIIIJI)Z"⟩ : MethodName)) (argsL := [(.ref b1), (.int fr), (.int lo), (.int hi), (.long rank), (.int (1 : Int32))]) (rest := []) (r := some (.int (own_holds (own_P [c0, c1, c2, c3, c4] fr rank) lo hi (1 : Int32)))) X8 hx hZ hown (hw _ (List.mem_of_getElem? (i := 3) rfl)) (hw _ (List.mem_of_getElem? (i := 4) rfl)) (hw _ (List.mem_of_getElem? (i := 5) rfl)) (hw _ (List.mem_of_getElem? (i := 6) rfl)) (by decide) (own_rmH l Z a0 hw b1 fr lo hi rank (1 : Int32) k1 [c0, c1, c2, c3, c4] h6 V6 ⟨own_nn hf.1, own_lt5 hf.2⟩ (by omega) hh.2) e8 (by rw [hml]; rfl) (lenOf own_dsc0 rfl) (hb hby at_178) rfl (Nat.le_of_eq rfl) (by decide) (by decide) (by decide) (by decide) fun T9 X9 e9 => ?_
  show Go p e below _ T9 (mkF m 181 #[.val (.long base), .second, .val (.long incs), .second, .val (.int bounds), .val (.long rank), .second, .val (.ref b1), .val (.int fr), .val (.int lo), .val (.int hi), .val (.int u2)] [(.int (own_holds (own_P [c0, c1, c2, c3, c4] fr rank) lo hi (1 : Int32)))])
  suffices km181 : ∀ (u1 : Int32), u1 = (if (own_holds (own_P [c0, c1, c2, c3, c4] fr rank) lo hi (1 : Int32)) = (0 : Int32) then u2 else (1 : Int32)) → Go p e below (GoEnd s room_1.cells room_1.slots (fun v _ L => v = some (.int 1) ∧ Fr h0.size L)) T9 (mkF m 187 #[.val (.long base), .second, .val (.long incs), .second, .val (.int bounds), .val (.long rank), .second, .val (.ref b1), .val (.int fr), .val (.int lo), .val (.int hi), .val (.int u1)] []) by
    by_cases hc181 : (own_holds (own_P [c0, c1, c2, c3, c4] fr rank) lo hi (1 : Int32)) = (0 : Int32)
    ·
      refine Go.of (fun _ k => XS.ifYes X9.here hx rfl (pc0 := 181) (pc' := 187) rfl (hb hby at_181) rfl ((if0 _ _).trans (teq hc181).1) (by decide) (by decide) k) ?_
      show Go p e below _ T9 (mkF m 187 #[.val (.long base), .second, .val (.long incs), .second, .val (.int bounds), .val (.long rank), .second, .val (.ref b1), .val (.int fr), .val (.int lo), .val (.int hi), .val (.int u2)] [])
      exact km181 _ (if_pos hc181).symm
    ·
      refine Go.of (fun _ k => XS.ifNo X9.here hx rfl (hb hby at_181) rfl ((if0 _ _).trans (feq hc181).1) k) ?_
      show Go p e below _ T9 (mkF m 184 #[.val (.long base), .second, .val (.long incs), .second, .val (.int bounds), .val (.long rank), .second, .val (.ref b1), .val (.int fr), .val (.int lo), .val (.int hi), .val (.int u2)] [])
      refine Go.of (fun _ k => XS.iconst X9.here hx rfl (hb hby at_184) k) ?_
      show Go p e below _ T9 (mkF m 185 #[.val (.long base), .second, .val (.long incs), .second, .val (.int bounds), .val (.long rank), .second, .val (.ref b1), .val (.int fr), .val (.int lo), .val (.int hi), .val (.int u2)] [(.int (1 : Int32))])
      refine Go.of (fun _ k => XS.istore X9.here hx rfl (hb hby at_185) rfl (l' := #[.val (.long base), .second, .val (.long incs), .second, .val (.int bounds), .val (.long rank), .second, .val (.ref b1), .val (.int fr), .val (.int lo), .val (.int hi), .val (.int (1 : Int32))]) rfl k) ?_
      show Go p e below _ T9 (mkF m 187 #[.val (.long base), .second, .val (.long incs), .second, .val (.int bounds), .val (.long rank), .second, .val (.ref b1), .val (.int fr), .val (.int lo), .val (.int hi), .val (.int (1 : Int32))] [])
      exact km181 _ (if_neg hc181).symm
  intro u1 hu_u1
  show Go p e below _ T9 (mkF m 187 #[.val (.long base), .second, .val (.long incs), .second, .val (.int bounds), .val (.long rank), .second, .val (.ref b1), .val (.int fr), .val (.int lo), .val (.int hi), .val (.int u1)] [])
  refine Go.of (fun _ k => XS.aload X9.here hx rfl (hb hby at_187) rfl rfl k) ?_
  show Go p e below _ T9 (mkF m 189 #[.val (.long base), .second, .val (.long incs), .second, .val (.int bounds), .val (.long rank), .second, .val (.ref b1), .val (.int fr), .val (.int lo), .val (.int hi), .val (.int u1)] [(.ref b1)])
  refine Go.of (fun _ k => XS.iload X9.here hx rfl (hb hby at_189) rfl k) ?_
  show Go p e below _ T9 (mkF m 191 #[.val (.long base), .second, .val (.long incs), .second, .val (.int bounds), .val (.long rank), .second, .val (.ref b1), .val (.int fr), .val (.int lo), .val (.int hi), .val (.int u1)] [(.int fr), (.ref b1)])
  refine Go.of (fun _ k => XS.iload X9.here hx rfl (hb hby at_191) rfl k) ?_
  show Go p e below _ T9 (mkF m 193 #[.val (.long base), .second, .val (.long incs), .second, .val (.int bounds), .val (.long rank), .second, .val (.ref b1), .val (.int fr), .val (.int lo), .val (.int hi), .val (.int u1)] [(.int lo), (.int fr), (.ref b1)])
  refine Go.of (fun _ k => XS.iload X9.here hx rfl (hb hby at_193) rfl k) ?_
  show Go p e below _ T9 (mkF m 195 #[.val (.long base), .second, .val (.long incs), .second, .val (.int bounds), .val (.long rank), .second, .val (.ref b1), .val (.int fr), .val (.int lo), .val (.int hi), .val (.int u1)] [(.int hi), (.int lo), (.int fr), (.ref b1)])
  refine Go.of (fun _ k => XS.lload X9.here hx rfl (hb hby at_195) rfl k) ?_
  show Go p e below _ T9 (mkF m 197 #[.val (.long base), .second, .val (.long incs), .second, .val (.int bounds), .val (.long rank), .second, .val (.ref b1), .val (.int fr), .val (.int lo), .val (.int hi), .val (.int u1)] [(.long rank), (.int hi), (.int lo), (.int fr), (.ref b1)])
  refine Go.of (fun _ k => XS.iconst X9.here hx rfl (hb hby at_197) k) ?_
  show Go p e below _ T9 (mkF m 198 #[.val (.long base), .second, .val (.long incs), .second, .val (.int bounds), .val (.long rank), .second, .val (.ref b1), .val (.int fr), .val (.int lo), .val (.int hi), .val (.int u1)] [(.int (0 : Int32)), (.long rank), (.int hi), (.int lo), (.int fr), (.ref b1)])
  refine Go.callSP (W := 0) (y := (⟨"com/example/joulepath/joulepath/core/powerlog/SortedMeansRankPlacePinLaw", "holds", "([JIIIJI)Z"⟩ : MethodName)) (argsL := [(.ref b1), (.int fr), (.int lo), (.int hi), (.long rank), (.int (0 : Int32))]) (rest := []) (r := some (.int (own_holds (own_P [c0, c1, c2, c3, c4] fr rank) lo hi (0 : Int32)))) X9 hx hZ hown (hw _ (List.mem_of_getElem? (i := 3) rfl)) (hw _ (List.mem_of_getElem? (i := 4) rfl)) (hw _ (List.mem_of_getElem? (i := 5) rfl)) (hw _ (List.mem_of_getElem? (i := 6) rfl)) (by decide) (own_rmH l Z a0 hw b1 fr lo hi rank (0 : Int32) k1 [c0, c1, c2, c3, c4] h6 V6 ⟨own_nn hf.1, own_lt5 hf.2⟩ (by omega) hh.2) e9 (by rw [hml]; rfl) (lenOf own_dsc0 rfl) (hb hby at_198) rfl (Nat.le_of_eq rfl) (by decide) (by decide) (by decide) (by decide) fun T10 X10 e10 => ?_
  show Go p e below _ T10 (mkF m 201 #[.val (.long base), .second, .val (.long incs), .second, .val (.int bounds), .val (.long rank), .second, .val (.ref b1), .val (.int fr), .val (.int lo), .val (.int hi), .val (.int u1)] [(.int (own_holds (own_P [c0, c1, c2, c3, c4] fr rank) lo hi (0 : Int32)))])
  suffices km201 : ∀ (u0 : Int32), u0 = (if (own_holds (own_P [c0, c1, c2, c3, c4] fr rank) lo hi (0 : Int32)) = (0 : Int32) then u1 else (0 : Int32)) → Go p e below (GoEnd s room_1.cells room_1.slots (fun v _ L => v = some (.int 1) ∧ Fr h0.size L)) T10 (mkF m 207 #[.val (.long base), .second, .val (.long incs), .second, .val (.int bounds), .val (.long rank), .second, .val (.ref b1), .val (.int fr), .val (.int lo), .val (.int hi), .val (.int u0)] []) by
    by_cases hc201 : (own_holds (own_P [c0, c1, c2, c3, c4] fr rank) lo hi (0 : Int32)) = (0 : Int32)
    ·
      refine Go.of (fun _ k => XS.ifYes X10.here hx rfl (pc0 := 201) (pc' := 207) rfl (hb hby at_201) rfl ((if0 _ _).trans (teq hc201).1) (by decide) (by decide) k) ?_
      show Go p e below _ T10 (mkF m 207 #[.val (.long base), .second, .val (.long incs), .second, .val (.int bounds), .val (.long rank), .second, .val (.ref b1), .val (.int fr), .val (.int lo), .val (.int hi), .val (.int u1)] [])
      exact km201 _ (if_pos hc201).symm
    ·
      refine Go.of (fun _ k => XS.ifNo X10.here hx rfl (hb hby at_201) rfl ((if0 _ _).trans (feq hc201).1) k) ?_
      show Go p e below _ T10 (mkF m 204 #[.val (.long base), .second, .val (.long incs), .second, .val (.int bounds), .val (.long rank), .second, .val (.ref b1), .val (.int fr), .val (.int lo), .val (.int hi), .val (.int u1)] [])
      refine Go.of (fun _ k => XS.iconst X10.here hx rfl (hb hby at_204) k) ?_
      show Go p e below _ T10 (mkF m 205 #[.val (.long base), .second, .val (.long incs), .second, .val (.int bounds), .val (.long rank), .second, .val (.ref b1), .val (.int fr), .val (.int lo), .val (.int hi), .val (.int u1)] [(.int (0 : Int32))])
      refine Go.of (fun _ k => XS.istore X10.here hx rfl (hb hby at_205) rfl (l' := #[.val (.long base), .second, .val (.long incs), .second, .val (.int bounds), .val (.long rank), .second, .val (.ref b1), .val (.int fr), .val (.int lo), .val (.int hi), .val (.int (0 : Int32))]) rfl k) ?_
      show Go p e below _ T10 (mkF m 207 #[.val (.long base), .second, .val (.long incs), .second, .val (.int bounds), .val (.long rank), .second, .val (.ref b1), .val (.int fr), .val (.int lo), .val (.int hi), .val (.int (0 : Int32))] [])
      exact km201 _ (if_neg hc201).symm
  intro u0 hu_u0
  show Go p e below _ T10 (mkF m 207 #[.val (.long base), .second, .val (.long incs), .second, .val (.int bounds), .val (.long rank), .second, .val (.ref b1), .val (.int fr), .val (.int lo), .val (.int hi), .val (.int u0)] [])
  refine Go.of (fun _ k => XS.aload X10.here hx rfl (hb hby at_207) rfl rfl k) ?_
  show Go p e below _ T10 (mkF m 209 #[.val (.long base), .second, .val (.long incs), .second, .val (.int bounds), .val (.long rank), .second, .val (.ref b1), .val (.int fr), .val (.int lo), .val (.int hi), .val (.int u0)] [(.ref b1)])
  refine Go.of (fun _ k => XS.iload X10.here hx rfl (hb hby at_209) rfl k) ?_
  show Go p e below _ T10 (mkF m 211 #[.val (.long base), .second, .val (.long incs), .second, .val (.int bounds), .val (.long rank), .second, .val (.ref b1), .val (.int fr), .val (.int lo), .val (.int hi), .val (.int u0)] [(.int fr), (.ref b1)])
  refine Go.of (fun _ k => XS.iload X10.here hx rfl (hb hby at_211) rfl k) ?_
  show Go p e below _ T10 (mkF m 213 #[.val (.long base), .second, .val (.long incs), .second, .val (.int bounds), .val (.long rank), .second, .val (.ref b1), .val (.int fr), .val (.int lo), .val (.int hi), .val (.int u0)] [(.int lo), (.int fr), (.ref b1)])
  refine Go.of (fun _ k => XS.iload X10.here hx rfl (hb hby at_213) rfl k) ?_
  show Go p e below _ T10 (mkF m 215 #[.val (.long base), .second, .val (.long incs), .second, .val (.int bounds), .val (.long rank), .second, .val (.ref b1), .val (.int fr), .val (.int lo), .val (.int hi), .val (.int u0)] [(.int hi), (.int lo), (.int fr), (.ref b1)])
  refine Go.of (fun _ k => XS.lload X10.here hx rfl (hb hby at_215) rfl k) ?_
  show Go p e below _ T10 (mkF m 217 #[.val (.long base), .second, .val (.long incs), .second, .val (.int bounds), .val (.long rank), .second, .val (.ref b1), .val (.int fr), .val (.int lo), .val (.int hi), .val (.int u0)] [(.long rank), (.int hi), (.int lo), (.int fr), (.ref b1)])
  refine Go.callSP (W := 0) (y := (⟨"com/example/joulepath/joulepath/core/powerlog/SortedMeans", "rankPlace", "([JIIIJ)I"⟩ : MethodName)) (argsL := [(.ref b1), (.int fr), (.int lo), (.int hi), (.long rank)]) (rest := []) (r := some (.int (own_bs 5 (own_P [c0, c1, c2, c3, c4] fr rank) lo hi))) X10 hx hZ hown (hw _ (List.mem_of_getElem? (i := 7) rfl)) (hw _ (List.mem_of_getElem? (i := 8) rfl)) (hw _ (List.mem_of_getElem? (i := 9) rfl)) (hw _ (List.mem_of_getElem? (i := 10) rfl)) (by decide) (own_rmR l Z a0 hw b1 fr lo hi rank k1 [c0, c1, c2, c3, c4] h6 V6 ⟨own_nn hf.1, own_lt5 hf.2⟩ (by omega) hh.2) e10 (by rw [hml]; rfl) (lenOf own_dsc1 rfl) (hb hby at_217) rfl (Nat.le_of_eq rfl) (by decide) (by decide) (by decide) (by decide) fun T11 X11 e11 => ?_
  show Go p e below _ T11 (mkF m 220 #[.val (.long base), .second, .val (.long incs), .second, .val (.int bounds), .val (.long rank), .second, .val (.ref b1), .val (.int fr), .val (.int lo), .val (.int hi), .val (.int u0)] [(.int (own_bs 5 (own_P [c0, c1, c2, c3, c4] fr rank) lo hi))])
  refine Go.of (fun _ k => XS.iload X11.here hx rfl (hb hby at_220) rfl k) ?_
  show Go p e below _ T11 (mkF m 222 #[.val (.long base), .second, .val (.long incs), .second, .val (.int bounds), .val (.long rank), .second, .val (.ref b1), .val (.int fr), .val (.int lo), .val (.int hi), .val (.int u0)] [(.int u0), (.int (own_bs 5 (own_P [c0, c1, c2, c3, c4] fr rank) lo hi))])
  refine Go.of (fun _ k => XS.icmpNo X11.here hx rfl (hb hby at_222) rfl (teq (by rw [own_end hb0.1 hb1.1 hb2.1 hb3.1 hb4.1 (by omega) hh.1 hh.2, hu_u0, hu_u1, hu_u2, hu_u3]; rfl : (own_bs 5 (own_P [c0, c1, c2, c3, c4] fr rank) lo hi) = u0)).2 k) ?_
  show Go p e below _ T11 (mkF m 225 #[.val (.long base), .second, .val (.long incs), .second, .val (.int bounds), .val (.long rank), .second, .val (.ref b1), .val (.int fr), .val (.int lo), .val (.int hi), .val (.int u0)] [])
  refine Go.of (fun _ k => XS.iconst X11.here hx rfl (hb hby at_225) k) ?_
  show Go p e below _ T11 (mkF m 226 #[.val (.long base), .second, .val (.long incs), .second, .val (.int bounds), .val (.long rank), .second, .val (.ref b1), .val (.int fr), .val (.int lo), .val (.int hi), .val (.int u0)] [(.int (1 : Int32))])
  refine Go.of (fun _ k => XS.goto X11.here hx rfl (pc0 := 226) (pc' := 230) rfl (hb hby at_226) (by decide) (by decide) k) ?_
  show Go p e below _ T11 (mkF m 230 #[.val (.long base), .second, .val (.long incs), .second, .val (.int bounds), .val (.long rank), .second, .val (.ref b1), .val (.int fr), .val (.int lo), .val (.int hi), .val (.int u0)] [(.int (1 : Int32))])
  exact Go.retN X11 hx hlk (t := .boolean) hret (by simp) (hb hby at_230) (by decide) (by decide) ⟨rfl, N6⟩
set_option maxRecDepth 65536 in
set_option maxHeartbeats 40000000 in
theorem comes_1 {Post : Tables → Env → Array Value → State → Outcome → State → Prop} (hpost : ∀ tb e args s v u, (limb_1_1.after args s (.returned v) u = true ∧ limb_1_2.after args s (.returned v) u = true ∧ True) → FrameEnd s (.returned v) u (Jvm.fieldLocs frame_1_writes args s ++ Jvm.arrayLocs frame_1_arrays args s ++ Jvm.staticLocs frame_1_statics s) 16 128 → Post tb e args s (.returned v) u) :
    ArmFor flags0 classFile x code maxLocals ret World_1 tables_1 room_1 Calls_1 rest_1 Pre_1 Post := by
  intro l hfl _ _ p e ha hc hk s m args below hf hA hF happ hP
  obtain ⟨hcalls, hrest, hpre⟩ := hP
  obtain ⟨-, -, -, hnamed, -, -, -, hat⟩ := (Spec.applies_iff hf).mp happ
  obtain ⟨hg, hn⟩ := and_e (Cond.before_iff.mp (show (Jvm.Cond.and given_1 narrow_1).before args s = true from hpre))
  obtain ⟨g0, gg0⟩ := and_e hg
  obtain ⟨ga0, gg1⟩ := and_e gg0
  obtain ⟨ga1, gg2⟩ := and_e gg1
  obtain ⟨ga2, gg3⟩ := and_e gg2
  have ga3 := gg3
  obtain ⟨w0, w1, w2, w3, rfl⟩ : ∃ w0 w1 w2 w3 : Value, args = #[w0, w1, w2, w3] := by
    have hs : args.size = 4 := by simpa [Cond.value, given_1] using g0
    obtain ⟨L⟩ := args
    match L, hs with
    | [w0, w1, w2, w3], _ => exact ⟨w0, w1, w2, w3, rfl⟩
  have hw := fun d (hd : d ∈ tables_1) => atoms_spec (ws := Jvm.Cond.code x code maxLocals ret :: tables_1) hat d (List.mem_cons_of_mem _ hd)
  have hfit : Fit s := fun {y c} hc i hi => by
    obtain ⟨ha, rfl⟩ := Array.getElem?_eq_some_iff.mp hc
    have q := List.all_eq_true.mp ((Array.all_eq_true_iff_forall_mem.mp hF) _ (Array.getElem_mem ha)) i (List.mem_range.mpr hi)
    simpa [Array.getElem?_eq_getElem hi] using q
  obtain ⟨i0, ei0⟩ := isL_v ga0
  obtain rfl : w0 = (.long i0) := Option.some.inj ei0
  obtain ⟨i1, ei1⟩ := isL_v ga1
  obtain rfl : w1 = (.long i1) := Option.some.inj ei1
  obtain ⟨i2, ei2⟩ := is_v ga2
  obtain rfl : w2 = (.int i2) := Option.some.inj ei2
  obtain ⟨i3, ei3⟩ := isL_v ga3
  obtain rfl : w3 = (.long i3) := Option.some.inj ei3
  obtain ⟨n, o, h1, h2, h3, _, L, rfl, ⟨rfl, N⟩, hq⟩ := rm0 l s _ hw tables_1 i0 i1 i2 i3 s.heap p e ha hc hk s m _ below hf ((Spec.applies_iff_loose hf).mp happ).1 ⟨rfl, State.Warmed39.refl s, rfl⟩ trivial
  refine ⟨n, _, h1, h2, h3, hpost _ _ _ _ _ _ ⟨Cond.after_iff.mpr rfl, Cond.after_iff.mpr (eq_i res_at (Term.int_eval (1)) rfl), trivial⟩ ⟨hq.1, hq.2.1, (hq.2.2.sift fun y hy => Or.inr (N y hy)).mono (by decide) (by decide)⟩⟩
theorem main_1_1 : Claimed_1_1 := comes_1 fun _ _ _ _ _ _ h hF => ⟨h.1, hF⟩
theorem main_1_2 : Claimed_1_2 := comes_1 fun _ _ _ _ _ _ h hF => ⟨h.2.1, hF⟩
end Jvm.Pilot.@@N@@
namespace Jvm.Pilot.@@N@@
open Jvm Jvm.ClassFile Sem Op Lib Jvm.Free Jvm.Stand Jvm.Pilot.@@N@@.Jvm.D
/-! MADE BY PROGRAM (witnessworld.py) out of the Statement's table words and the real class files: 11 classes; the members and pool entries that the words name. The judged class is class 1, her method 1. -/
namespace start1
open Jvm.ClassFile
def u (s : String) : CpInfo := .utf8 (stringToUtf16 s)
/-- a pool by its gaps: so many unusable entries, then the entry; so many at the end -/
def gap : Nat → List CpInfo → List CpInfo
  | 0, r => r
  | n + 1, r => .unusable :: gap n r
def poolList (es : List (Nat × CpInfo)) (last : Nat) : List CpInfo := es.foldr (fun e r => gap e.1 (e.2 :: r)) (gap last [])
def pool (es : List (Nat × CpInfo)) (last : Nat) : Array CpInfo := ⟨poolList es last⟩
def fileOf (pool : Array CpInfo) (this : Nat) (attrs : Array Attribute := #[]) (ms : Array MethodInfo := #[]) (fl : Nat := 33) (sup : Nat := 0) (ifs : Array Nat := #[]) (fds : Array FieldInfo := #[]) : ClassFile where
  minorVersion := 0
  majorVersion := 65
  constantPool := pool
  accessFlags := fl
  thisClass := this
  superClass := sup
  interfaces := ifs
  fields := fds
  methods := ms
  attributes := attrs
def plain (name : String) (sup : Option ClassId) : Class where
  name := name
  kind := .ordinary
  loader := none
  accessFlags := 33
  super := sup
  interfaces := #[]
  cf := none
  fields := #[]
  methods := #[]
  instanceTypes := #[]
  staticTypes := #[]
  resolved := #[]
  callSites := []
  init := .initialized
  statics := none
  mirror := none

def pool0 : Array CpInfo := pool [(5, u "<init>"), (0, u "()V"), (1, .class_ 10), (1, u "java/lang/Object")] 113

def k0m0 : Method := { name := "<init>", desc := "()V", sig := { parameters := [], returnType := none }, accessFlags := 1, code := none }
/-- java/lang/Object -/
def k0 : Class := { plain "java/lang/Object" none with
  accessFlags := 33
  interfaces := #[]
  cf := some (fileOf pool0 8 #[] #[{ accessFlags := 1, nameIndex := 5, descriptorIndex := 6, attributes := #[] }] 33 0 #[] #[])
  fields := #[]
  methods := #[k0m0]
  instanceTypes := #[]
  staticTypes := #[]
  resolved := Array.replicate 124 none
  statics := none }

def pool1 : Array CpInfo := pool [(2, .class_ 4), (1, u "java/lang/Object"), (0, u "<init>"), (0, u "()V"), (0, .long 4611686018427387903), (1, .long 65535), (1, .methodref 12 13), (0, .class_ 14), (0, .nameAndType 15 16), (0, u "com/example/joulepath/joulepath/core/powerlog/SortedMeansRankPlacePinLaw"), (0, u "holds"), (0, u "([JIIIJI)Z"), (0, .methodref 18 19), (0, .class_ 20), (0, .nameAndType 21 22), (0, u "com/example/joulepath/joulepath/core/powerlog/SortedMeans"), (0, u "rankPlace"), (0, u "([JIIIJ)I"), (2, u "law"), (0, u "(JJIJ)Z")] 5

def k1m0 : Method := { name := "<init>", desc := "()V", sig := { parameters := [], returnType := none }, accessFlags := 1, code := none }
def k1c1 : Code := { maxStack := 8, maxLocals := 12, code := code, exceptionTable := #[], attributes := #[] }
def k1m1 : Method := { name := "law", desc := "(JJIJ)Z", sig := { parameters := [.long, .long, .int, .long], returnType := some .boolean }, accessFlags := 9, code := some k1c1 }
def k1c2 : Code := { maxStack := 4, maxLocals := 7, code := method_3_code, exceptionTable := #[], attributes := #[] }
def k1m2 : Method := { name := "holds", desc := "([JIIIJI)Z", sig := { parameters := [(.array .long), .int, .int, .int, .long, .int], returnType := some .boolean }, accessFlags := 10, code := some k1c2 }
/-- com/example/joulepath/joulepath/core/powerlog/SortedMeansRankPlacePinLaw -/
def k1 : Class := { plain "com/example/joulepath/joulepath/core/powerlog/SortedMeansRankPlacePinLaw" (some 0) with
  accessFlags := 49
  interfaces := #[]
  cf := some (fileOf pool1 12 #[] #[{ accessFlags := 1, nameIndex := 5, descriptorIndex := 6, attributes := #[] }, { accessFlags := 9, nameIndex := 25, descriptorIndex := 26, attributes := #[] }, { accessFlags := 10, nameIndex := 15, descriptorIndex := 16, attributes := #[] }] 49 2 #[] #[])
  fields := #[]
  methods := #[k1m0, k1m1, k1m2]
  instanceTypes := #[]
  staticTypes := #[]
  resolved := Array.replicate 32 none
  statics := none }

def pool2 : Array CpInfo := pool [(4, .class_ 6), (1, u "java/lang/Object"), (3, .class_ 12), (1, u "com/example/joulepath/joulepath/core/powerlog/SortedMeans"), (0, u "means"), (0, u "[D"), (2, u "size"), (0, u "I"), (2, u "before"), (0, u "[J"), (21, .class_ 45), (0, u "com/example/joulepath/joulepath/core/powerlog/SortedMeans$Parted"), (3, u "LARGEST"), (0, u "D"), (9, u "rankPlace"), (0, u "([JIIIJ)I")] 5

def k2c0 : Code := { maxStack := 4, maxLocals := 7, code := prog_151_method_3_code, exceptionTable := #[], attributes := #[] }
def k2m0 : Method := { name := "rankPlace", desc := "([JIIIJ)I", sig := { parameters := [(.array .long), .int, .int, .int, .long], returnType := some .int }, accessFlags := 8, code := some k2c0 }
/-- com/example/joulepath/joulepath/core/powerlog/SortedMeans -/
def k2 : Class := { plain "com/example/joulepath/joulepath/core/powerlog/SortedMeans" (some 0) with
  accessFlags := 48
  interfaces := #[]
  cf := some (fileOf pool2 10 #[.nestMembers #[44]] #[{ accessFlags := 8, nameIndex := 60, descriptorIndex := 61, attributes := #[] }] 48 4 #[] #[{ accessFlags := 26, nameIndex := 49, descriptorIndex := 50, attributes := #[] }, { accessFlags := 18, nameIndex := 13, descriptorIndex := 14, attributes := #[] }, { accessFlags := 18, nameIndex := 17, descriptorIndex := 18, attributes := #[] }, { accessFlags := 18, nameIndex := 21, descriptorIndex := 22, attributes := #[] }])
  fields := #[{ name := "LARGEST", type := .double, accessFlags := 26, slot := 0, constantValue := 0 }, { name := "means", type := (.array .double), accessFlags := 18, slot := 0, constantValue := 0 }, { name := "size", type := .int, accessFlags := 18, slot := 1, constantValue := 0 }, { name := "before", type := (.array .long), accessFlags := 18, slot := 2, constantValue := 0 }]
  methods := #[k2m0]
  instanceTypes := #[(.array .double), .int, (.array .long)]
  staticTypes := #[.double]
  resolved := Array.replicate 67 none
  statics := none }

def pool3 : Array CpInfo := pool [(1, u "java/lang/Cloneable"), (0, .class_ 1), (0, u "java/lang/Object"), (0, .class_ 3)] 3

/-- java/lang/Cloneable -/
def k3 : Class := { plain "java/lang/Cloneable" (some 0) with
  accessFlags := 1537
  interfaces := #[]
  cf := some (fileOf pool3 2 #[] #[] 1537 4 #[] #[])
  fields := #[]
  methods := #[]
  instanceTypes := #[]
  staticTypes := #[]
  resolved := Array.replicate 8 none
  statics := none }

def pool4 : Array CpInfo := pool [(1, u "java/io/Serializable"), (0, .class_ 1), (0, u "java/lang/Object"), (0, .class_ 3)] 3

/-- java/io/Serializable -/
def k4 : Class := { plain "java/io/Serializable" (some 0) with
  accessFlags := 1537
  interfaces := #[]
  cf := some (fileOf pool4 2 #[] #[] 1537 4 #[] #[])
  fields := #[]
  methods := #[]
  instanceTypes := #[]
  staticTypes := #[]
  resolved := Array.replicate 8 none
  statics := none }

/-- the primitive byte -/
def k5 : Class := { plain "byte" none with kind := .primitive 'B', accessFlags := 0x411 }
/-- [B -/
def k6 : Class := { plain "[B" (some 0) with kind := .array 5 .byte, interfaces := #[3, 4], accessFlags := 1041 }

/-- the primitive int -/
def k7 : Class := { plain "int" none with kind := .primitive 'I', accessFlags := 0x411 }
/-- [I -/
def k8 : Class := { plain "[I" (some 0) with kind := .array 7 .int, interfaces := #[3, 4], accessFlags := 1041 }

/-- the primitive long -/
def k9 : Class := { plain "long" none with kind := .primitive 'J', accessFlags := 0x411 }
/-- [J -/
def k10 : Class := { plain "[J" (some 0) with kind := .array 9 .long, interfaces := #[3, 4], accessFlags := 1041 }

def heap : Heap := #[]
def classes : Array Class := #[k0, k1, k2, k3, k4, k5, k6, k7, k8, k9, k10]
def interned : List (Array UInt16 × Addr) := []
def slotsUsed : Nat := 0
def theMethod : MethodId := ⟨1, 1⟩
def args0 : Array Value := #[.long 5, .long 7, .int 3, .long 2]
def aboutOver (below : List Frame) : State where
  vm := { classes := classes, interned := interned.toArray }
  heap := heap
  slotsUsed := slotsUsed
  threads := #[{ frames := .invoking theMethod args0 :: below }]
def below0 : List Frame := [.native { method := ⟨0, 0⟩, args := #[] }]
def about1 : State := aboutOver below0
def p0 : Program := .bare "" "" ""
def e0 : Env := launch0.env 0 0 0
theorem w_frames : about1.frames = Frame.invoking theMethod args0 :: below0 := rfl
set_option maxRecDepth 65536 in
theorem w_args : argsFit about1.vm theMethod args0 = true := by decide +kernel
set_option maxRecDepth 65536 in
theorem w_heap : heapFits about1 = true := by decide +kernel
set_option maxRecDepth 65536 in
theorem w_runnable : about1.curStatus? = some .runnable := by decide +kernel
set_option maxRecDepth 65536 in
theorem w_alone : about1.alone = true := by decide +kernel
set_option maxRecDepth 65536 in
theorem w_named : about1.methodNamed? x = some theMethod := by decide +kernel
set_option maxRecDepth 65536 in
theorem w_hears : about1.hears theMethod below0 = true := by decide +kernel
set_option maxRecDepth 65536 in
theorem w_ripe : about1.ripe theMethod args0 below0 = true := by decide +kernel
theorem w_running : about1.status = .running := rfl
set_option maxRecDepth 65536 in
theorem w_room : about1.hasRoom e0.platform room_1 = true :=
  launch0.hasRoom_least _ room_1 (by decide +kernel) (by decide +kernel) (by decide +kernel) (by decide +kernel) (by decide +kernel) (by decide +kernel)
theorem allAtoms_all (ts : List Jvm.Cond) (a : Array Jvm.Value) (st : Jvm.State) : (allAtoms ts).before a st = ts.all (fun c => c.before a st) := by
  induction ts with
  | nil => rfl
  | cons c t ih =>
    show (Jvm.Cond.and c (allAtoms t)).before a st = _
    rw [Jvm.Cond.before_and, ih, List.all_cons]
def words1 : List Jvm.Cond := Jvm.Cond.code x code maxLocals ret :: tables_1
/-- a 'code' word, met by the world's own term for the bytes: nothing is compared byte by byte -/
theorem code_word {y : MethodName} {bytes : ByteArray} {mx : Nat} {rt : Option FieldType} {a : Array Value} {s : State} {m : MethodId} {meth : Method} {c : Code} (h1 : s.methodNamed? y = some m) (h2 : s.vm.method? m = some meth) (h3 : meth.code = some c) (h4 : c.code = bytes)
    (h5 : (c.maxLocals == mx && c.exceptionTable.isEmpty && decide (c.maxStack ≤ mostOperands) && decide (meth.sig.returnType = rt) && !meth.locks && decide (parseMethodDescriptor y.desc = some meth.sig)) = true) : (Jvm.Cond.code y bytes mx rt).before a s = true := by
  simp only [Bool.and_eq_true, beq_iff_eq, Bool.not_eq_true', decide_eq_true_eq] at h5
  obtain ⟨⟨⟨⟨⟨g1, g2⟩, g3⟩, g4⟩, g5⟩, g6⟩ := h5
  simp [Cond.before, Cond.holds, Cond.value, h1, h2, h3, h4, g1, g2, g3, g4, g5, g6]
def isCode : Jvm.Cond → Bool
  | .code _ _ _ _ => true
  | _ => false
theorem all_split {L : List Jvm.Cond} {P : Jvm.Cond → Bool} (h1 : L.all (fun c => isCode c || P c) = true) (h2 : ∀ c ∈ L.filter isCode, P c = true) : L.all P = true := by
  refine List.all_eq_true.mpr fun c hc => ?_
  have h := List.all_eq_true.mp h1 c hc
  rcases Bool.eq_false_or_eq_true (isCode c) with hi | hi
  · exact h2 c (List.mem_filter.mpr ⟨hc, hi⟩)
  · simpa [hi] using h
set_option maxRecDepth 65536 in
theorem w_c0 : (Jvm.Cond.code x code maxLocals ret).before args0 about1 = true := code_word (m := ⟨1, 1⟩) (meth := k1m1) (c := k1c1) (by decide +kernel) rfl rfl rfl (by decide +kernel)
set_option maxRecDepth 65536 in
theorem w_c1 : (Jvm.Cond.code ({ cls := "com/example/joulepath/joulepath/core/powerlog/SortedMeansRankPlacePinLaw", name := "holds", desc := "([JIIIJI)Z" } : Jvm.MethodName) method_3_code (7 : Nat) (Option.some Jvm.ClassFile.FieldType.boolean)).before args0 about1 = true := code_word (m := ⟨1, 2⟩) (meth := k1m2) (c := k1c2) (by decide +kernel) rfl rfl rfl (by decide +kernel)
set_option maxRecDepth 65536 in
theorem w_c2 : (Jvm.Cond.code ({ cls := "com/example/joulepath/joulepath/core/powerlog/SortedMeans", name := "rankPlace", desc := "([JIIIJ)I" } : Jvm.MethodName) prog_151_method_3_code (7 : Nat) (Option.some Jvm.ClassFile.FieldType.int)).before args0 about1 = true := code_word (m := ⟨2, 0⟩) (meth := k2m0) (c := k2c0) (by decide +kernel) rfl rfl rfl (by decide +kernel)
def codes1 : List Jvm.Cond := [Jvm.Cond.code x code maxLocals ret, Jvm.Cond.code ({ cls := "com/example/joulepath/joulepath/core/powerlog/SortedMeansRankPlacePinLaw", name := "holds", desc := "([JIIIJI)Z" } : Jvm.MethodName) method_3_code (7 : Nat) (Option.some Jvm.ClassFile.FieldType.boolean), Jvm.Cond.code ({ cls := "com/example/joulepath/joulepath/core/powerlog/SortedMeans", name := "rankPlace", desc := "([JIIIJ)I" } : Jvm.MethodName) prog_151_method_3_code (7 : Nat) (Option.some Jvm.ClassFile.FieldType.int)]
set_option maxRecDepth 65536 in
theorem codes_eq : words1.filter isCode = codes1 := rfl
theorem w_codes : ∀ c ∈ words1.filter isCode, c.before args0 about1 = true := by
  rw [codes_eq]
  intro c hc
  simp only [codes1, List.mem_cons, List.not_mem_nil, or_false] at hc
  rcases hc with rfl | rfl | rfl
  · exact w_c0
  · exact w_c1
  · exact w_c2
set_option maxRecDepth 65536 in
theorem w_t1 : words1.all (fun c => isCode c || c.before args0 about1) = true := by decide +kernel
theorem w_tables : (allAtoms (Jvm.Cond.code x code maxLocals ret :: tables_1)).before args0 about1 = true := by
  rw [allAtoms_all]
  show words1.all (fun c => c.before args0 about1) = true
  refine all_split ?_ w_codes
  rw [w_t1]
set_option maxRecDepth 65536 in
theorem w_case : (Jvm.Cond.and given_1 narrow_1).before args0 about1 = true := by decide +kernel
theorem w_applies : (headSpec (Jvm.Cond.code x code maxLocals ret :: tables_1) room_1).applies x e0.platform about1 = true :=
  (Spec.applies_iff w_frames).mpr ⟨w_running, w_runnable, w_alone, w_named, w_hears, w_ripe, w_room, w_tables⟩
theorem atStart : AtStart classFile x code maxLocals ret World_1 tables_1 room_1 Calls_1 rest_1 Pre_1 launch0 p0 e0 about1 theMethod args0 below0 :=
  ⟨lists_1, trivial, launch0.admits_env _ _ _, launch0.least_env, fairChoices_fair.cas, fairChoices_fair.clock, w_frames, w_args, w_heap, w_applies, trivial, trivial, w_case⟩
end start1
theorem witness_1 : WitnessClaimed_1 := ⟨start1.p0, start1.e0, start1.about1, start1.theMethod, start1.args0, start1.below0, start1.atStart⟩
end Jvm.Pilot.@@N@@
