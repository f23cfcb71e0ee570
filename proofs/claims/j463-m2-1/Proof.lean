import JvmDerived
import JvmDerived.Pilot.@@N@@Statement
import JvmDerived.Pilot.@@N@@Code
set_option linter.unusedVariables false
set_option linter.unusedSimpArgs false
namespace Jvm.Free.XS
/-- lcmp's int; iushr's int -/
def cmpL (x y : Int64) : Int32 := if x > y then 1 else if x = y then 0 else -1
def ushr (x y : Int32) : Int32 := (x.toUInt32 >>> (y &&& 31).toUInt32).toInt32
end Jvm.Free.XS
@@BLOCK:NumsL.lean.txt@@
namespace Jvm.RoadKit
open Sem ClassFile Op Lib Jvm.Stand Jvm.Free Jvm.LawKit
section Going
variable {p : Program} {l : Launch} {e : Env} {R : Room} {s : State} {m : MethodId} {args : Array Value} {below : List Frame} {meth : Method} {c : Code} {T T' : State} {locs : List Loc} {cells slots : Nat} {K N : Nat} {Q : Option Value → Heap → List Loc → Prop} {F : Option Value → State → Prop} {g g' : JFrame} {Z : State} {a0 : Array Value} {h : Heap}
/-- from this frame the run comes to the method's return, with what F says of the value and the end -/
def Go (p : Program) (e : Env) (below : List Frame) (F : Option Value → State → Prop) (T : State) (g : JFrame) : Prop :=
  ∃ s₂ o, Steps p.tables e below (T.setTop g) s₂ ∧ s₂.status = .running ∧ Ended s₂ below o ∧ ∃ v, o = .returned v ∧ F v s₂
/-- what is said of an end: Q of the value, the heap and the places written; and the frame -/
def GoEnd (s : State) (K N : Nat) (Q : Option Value → Heap → List Loc → Prop) (v : Option Value) (t : State) : Prop := ∃ L, Q v t.heap L ∧ FrameEnd s (.returned v) t L K N
theorem Go.of (q : ∀ t, Steps p.tables e below (T'.setTop g') t → Steps p.tables e below (T.setTop g) t) (k : Go p e below F T' g') : Go p e below F T g := by
  obtain ⟨s₂, o, h1, r⟩ := k; exact ⟨s₂, o, q _ h1, r⟩
theorem Go.via (q : Steps p.tables e below (T.setTop g) (T'.setTop g')) (k : Go p e below F T' g') : Go p e below F T g := Go.of (fun _ r => q.trans r) k
theorem Go.cast (q : g = g') (k : Go p e below F T g') : Go p e below F T g := q ▸ k
/-- a body's contract out of its walk -/
theorem goBody {y : MethodName} {bytes : ByteArray} {maxL : Nat} {ret : Option FieldType} {ws : List Cond} {rm : Room} {as' : Array Value} (hp : plainFor y = true)
    (body : ∀ p e s m below meth c s₁, p.tables.exec = Jvm.exec → Z.Warmed39 s.vm → c.code = bytes → c.maxLocals = maxL → s.vm.findClass y.cls = some m.cls → meth.name = y.name → meth.sig.returnType = ret → meth.locks = false →
      Stand p l e rm s m as' below meth c s₁ [] 0 0 → s₁.heap = h → Go p e below (GoEnd s rm.cells rm.slots Q) s₁ (entryFrame m as' maxL)) :
    MetFree l y (head1 (Cond.code y bytes maxL ret :: ws) rm) (fun a U => a = as' ∧ Z.Warmed39 U.vm ∧ U.heap = h) (fun _ _ _ _ _ => True) (fun _ U o U' => ∃ v L, o = .returned v ∧ Q v U'.heap L ∧ FrameEnd U o U' L rm.cells rm.slots) := by
  refine MetFree.of_bodySF hp hisR ?_
  intro p e s m args below meth c s₁ Bd hml hP hK
  obtain ⟨rfl, hZ, hh⟩ := hP
  obtain ⟨s₂, o, h1, h2, h3, v, rfl, L, h4, h5⟩ := body p e s m below meth c s₁ Bd.exec hZ Bd.bytes hml (findClass_of_methodNamed Bd.named) (name_of_methodNamed Bd.named Bd.method).1 Bd.returns Bd.notSynchronized (Stand.of_body Bd) (by rw [← hh, Bd.state]; rfl)
  exact ⟨s₂, _, h1, h2, h3, v, L, rfl, h4, h5⟩
theorem Go.retI (X : Stand p l e R s m args below meth c T locs cells slots) (hx : p.tables.exec = Jvm.exec) (hlk : meth.locks = false) {pc : Nat} {Ls : Array Slot} {z : Int32} {rest : List Value} (hret : meth.sig.returnType = some .int) (hd : decode c.code pc = .ok (.ireturn, 1)) (hK : cells ≤ K) (hN : slots ≤ N) (hq : Q (some (.int z)) T.heap locs) : Go p e below (GoEnd s K N Q) T (mkF m pc Ls (.int z :: rest)) := by
  obtain ⟨fs, hr, hrun, hended, hW, hsame⟩ := X.leave (v := some (.int z)) (fun h => by rw [hret] at h; cases h) hlk
  exact ⟨_, _, retOut X hx (t := .int) (i := .ireturn) hret rfl (Or.inl ⟨rfl, Or.inl rfl, z, rfl⟩) hd hr, hrun, hended, _, rfl, _, hq, ⟨_, rfl⟩, hW, hsame.mono hK hN⟩
theorem Go.retN (X : Stand p l e R s m args below meth c T locs cells slots) (hx : p.tables.exec = Jvm.exec) (hlk : meth.locks = false) {pc : Nat} {Ls : Array Slot} {z : Int32} {t : FieldType} {rest : List Value} (hret : meth.sig.returnType = some t) (ht : t = .boolean ∨ t = .byte ∨ t = .char ∨ t = .short) (hd : decode c.code pc = .ok (.ireturn, 1)) (hK : cells ≤ K) (hN : slots ≤ N) (hq : Q (some (.int (nar t z))) T.heap locs) : Go p e below (GoEnd s K N Q) T (mkF m pc Ls (.int z :: rest)) := by
  obtain ⟨fs, hr, hrun, hended, hW, hsame⟩ := X.leave (v := some (.int (nar t z))) (fun h => by rw [hret] at h; cases h) hlk
  exact ⟨_, _, Jvm.RoadKit.retN X hx (t := t) hret ht hd hr, hrun, hended, _, rfl, _, hq, ⟨_, rfl⟩, hW, hsame.mono hK hN⟩
theorem Go.retJ (X : Stand p l e R s m args below meth c T locs cells slots) (hx : p.tables.exec = Jvm.exec) (hlk : meth.locks = false) {pc : Nat} {Ls : Array Slot} {z : Int64} {rest : List Value} (hret : meth.sig.returnType = some .long) (hd : decode c.code pc = .ok (.lreturn, 1)) (hK : cells ≤ K) (hN : slots ≤ N) (hq : Q (some (.long z)) T.heap locs) : Go p e below (GoEnd s K N Q) T (mkF m pc Ls (.long z :: rest)) := by
  obtain ⟨fs, hr, hrun, hended, hW, hsame⟩ := X.leave (v := some (.long z)) (fun h => by rw [hret] at h; cases h) hlk
  exact ⟨_, _, retOut X hx (t := .long) (i := .lreturn) hret rfl (Or.inr (Or.inl ⟨rfl, rfl, z, rfl⟩)) hd hr, hrun, hended, _, rfl, _, hq, ⟨_, rfl⟩, hW, hsame.mono hK hN⟩
theorem Go.retD (X : Stand p l e R s m args below meth c T locs cells slots) (hx : p.tables.exec = Jvm.exec) (hlk : meth.locks = false) {pc : Nat} {Ls : Array Slot} {z : UInt64} {rest : List Value} (hret : meth.sig.returnType = some .double) (hd : decode c.code pc = .ok (.dreturn, 1)) (hK : cells ≤ K) (hN : slots ≤ N) (hq : Q (some (.double z)) T.heap locs) : Go p e below (GoEnd s K N Q) T (mkF m pc Ls (.double z :: rest)) := by
  obtain ⟨fs, hr, hrun, hended, hW, hsame⟩ := X.leave (v := some (.double z)) (fun h => by rw [hret] at h; cases h) hlk
  exact ⟨_, _, retOut X hx (t := .double) (i := .dreturn) hret rfl (Or.inr (Or.inr (Or.inl ⟨rfl, rfl, z, rfl⟩))) hd hr, hrun, hended, _, rfl, _, hq, ⟨_, rfl⟩, hW, hsame.mono hK hN⟩
theorem Go.retA (X : Stand p l e R s m args below meth c T locs cells slots) (hx : p.tables.exec = Jvm.exec) (hlk : meth.locks = false) {pc : Nat} {Ls : Array Slot} {v : Value} {t : FieldType} {rest : List Value} (hret : meth.sig.returnType = some t) (ht : t.isReference = true) (hv : v.isRef = true) (hn : narrow t v = v) (hd : decode c.code pc = .ok (.areturn, 1)) (hK : cells ≤ K) (hN : slots ≤ N) (hq : Q (some v) T.heap locs) : Go p e below (GoEnd s K N Q) T (mkF m pc Ls (v :: rest)) := by
  obtain ⟨fs, hr, hrun, hended, hW, hsame⟩ := X.leave (v := some v) (fun h => by rw [hret] at h; cases h) hlk
  exact ⟨_, _, retOut X hx (t := t) (i := .areturn) hret hn (Or.inr (Or.inr (Or.inr (Or.inr ⟨rfl, ht, hv⟩)))) hd hr, hrun, hended, _, rfl, _, hq, ⟨_, rfl⟩, hW, hsame.mono hK hN⟩
theorem Go.retV (X : Stand p l e R s m args below meth c T locs cells slots) (hx : p.tables.exec = Jvm.exec) (hlk : meth.locks = false) {pc : Nat} {Ls : Array Slot} (hret : meth.sig.returnType = none) (hd : decode c.code pc = .ok (.return_, 1)) (hK : cells ≤ K) (hN : slots ≤ N) (hq : Q none T.heap locs) : Go p e below (GoEnd s K N Q) T (mkF m pc Ls []) := by
  obtain ⟨fs, hr, hrun, hended, hW, hsame⟩ := X.leave (v := none) (fun _ => rfl) hlk
  exact ⟨_, _, X.returnOut hx hret hd hr, hrun, hended, _, rfl, _, hq, ⟨_, rfl⟩, hW, hsame.mono hK hN⟩
/-- what a callee that writes and makes nothing leaves -/
def PQ (h : Heap) (r : Option Value) (v : Option Value) (h' : Heap) (L : List Loc) : Prop := v = r ∧ L = [] ∧ h' = h
/-- a contract in the form in which a call takes it -/
abbrev MetAt (l : Launch) (Z : State) (y : MethodName) (bytes : ByteArray) (maxL : Nat) (ret : Option FieldType) (rm : Room) (as' : Array Value) (h : Heap) (Q : Option Value → Heap → List Loc → Prop) : Prop :=
  MetFree l y (head1 [Cond.code y bytes maxL ret] rm) (fun a U => a = as' ∧ Z.Warmed39 U.vm ∧ U.heap = h) (fun _ _ _ _ _ => True) (fun _ U o U' => ∃ v L, o = .returned v ∧ Q v U'.heap L ∧ FrameEnd U o U' L rm.cells rm.slots)
variable {own : String} {index : Nat} {y z : MethodName} {bytes : ByteArray} {maxL W pc : Nat} {ret : Option FieldType} {rm : Room} {Qc : Option Value → Heap → List Loc → Prop} {argsL rest st : List Value} {Ls : Array Slot}
theorem Go.callS (X : Stand p l e R s m args below meth c T locs cells slots) (hx : p.tables.exec = Jvm.exec) (hZ : Z.Warmed39 s.vm) (hown : s.vm.findClass own = some m.cls)
    (wl : (Cond.methodLink own index y).before a0 Z = true) (ws : (Cond.static y).before a0 Z = true) (wz : (Cond.initialized y.cls).before a0 Z = true) (wc : (Cond.code y bytes maxL ret).before a0 Z = true)
    (hy : y.cls ≠ "java/lang/invoke/MethodHandle" ∧ y.cls ≠ "java/lang/invoke/VarHandle") (hM : MetAt l Z y bytes maxL ret rm argsL.toArray h Qc) (eT : T.heap = h) (hsize : Ls.size = c.maxLocals)
    (hlen : ∀ sig, parseMethodDescriptor y.desc = some sig → argsL.length = sig.parameters.length) (hd : decode c.code pc = .ok (.invokestatic index, 3)) (hst : st = argsL.reverse ++ rest)
    (hW : (rest.map fun v => v.category).sum ≤ W) (hf : rm.frames + 1 ≤ R.frames) (hl : W + (maxL + 11) + rm.locals ≤ R.locals) (hc : cells + rm.cells ≤ R.cells) (hs : slots + rm.slots ≤ R.slots)
    (k : ∀ v T' L', Stand p l e R s m args below meth c T' (locs ++ L') (cells + rm.cells) (slots + rm.slots) → Qc v T'.heap L' → Go p e below F T' (mkF m (pc + 3) Ls (v.toList ++ rest))) : Go p e below F T (mkF m pc Ls st) := by
  obtain ⟨v, vm₁, ⟨T', L', k', n'⟩, -, X', ⟨Lc, hQ, l1, y1, z1⟩, stp⟩ := Jvm.LawKit.callS X hx hown (mvT hZ wl) (mvT hZ ws) (mvT hZ wz) (mvT hZ wc) hy (backOf (W := W) hM hZ wc wz hf hl) (g := mkF m pc Ls st) rfl hsize hlen hst (by show 2 * 0 + _ ≤ _; omega) hd (fun _ _ => ⟨rfl, eT, hc, hs⟩)
  dsimp only [Pt.U, Pt.locs, Pt.cells, Pt.slots] at X' l1 y1 z1 stp hQ
  subst l1 y1 z1
  exact Go.of stp (k v T' Lc X' hQ)
theorem Go.callSP (X : Stand p l e R s m args below meth c T locs cells slots) (hx : p.tables.exec = Jvm.exec) (hZ : Z.Warmed39 s.vm) (hown : s.vm.findClass own = some m.cls)
    (wl : (Cond.methodLink own index y).before a0 Z = true) (ws : (Cond.static y).before a0 Z = true) (wz : (Cond.initialized y.cls).before a0 Z = true) (wc : (Cond.code y bytes maxL ret).before a0 Z = true)
    (hy : y.cls ≠ "java/lang/invoke/MethodHandle" ∧ y.cls ≠ "java/lang/invoke/VarHandle") {r : Option Value} {fr lo : Nat} (hM : MetAt l Z y bytes maxL ret { frames := fr, cells := 0, slots := 0, locals := lo } argsL.toArray h (PQ h r)) (eT : T.heap = h) (hsize : Ls.size = c.maxLocals)
    (hlen : ∀ sig, parseMethodDescriptor y.desc = some sig → argsL.length = sig.parameters.length) (hd : decode c.code pc = .ok (.invokestatic index, 3)) (hst : st = argsL.reverse ++ rest)
    (hW : (rest.map fun v => v.category).sum ≤ W) (hf : fr + 1 ≤ R.frames) (hl : W + (maxL + 11) + lo ≤ R.locals) (hc : cells ≤ R.cells) (hs : slots ≤ R.slots)
    (k : ∀ T', Stand p l e R s m args below meth c T' locs cells slots → T'.heap = h → Go p e below F T' (mkF m (pc + 3) Ls (r.toList ++ rest))) : Go p e below F T (mkF m pc Ls st) := by
  refine Go.callS X hx hZ hown wl ws wz wc hy hM eT hsize hlen hd hst hW hf hl hc hs fun v T' L' X' q => ?_
  obtain ⟨rfl, rfl, e'⟩ := q
  rw [List.append_nil] at X'
  exact k T' X' e'
theorem Go.callI (X : Stand p l e R s m args below meth c T locs cells slots) (hx : p.tables.exec = Jvm.exec) (hZ : Z.Warmed39 s.vm) (hy1 : y.name = "<init>") (hown : s.vm.findClass own = some m.cls)
    (wl : (Cond.methodLink own index y).before a0 Z = true) (wi : (Cond.instanceMethod y).before a0 Z = true) (wz : (Cond.initialized y.cls).before a0 Z = true) (wc : (Cond.code y bytes maxL none).before a0 Z = true)
    (hy : y.cls ≠ "java/lang/invoke/MethodHandle" ∧ y.cls ≠ "java/lang/invoke/VarHandle") {a : Addr} (hM : MetAt l Z y bytes maxL none rm (.ref a :: argsL).toArray h Qc) (eT : T.heap = h) (hsize : Ls.size = c.maxLocals)
    (hlen : ∀ sig, parseMethodDescriptor y.desc = some sig → argsL.length = sig.parameters.length) (hd : decode c.code pc = .ok (.invokespecial index, 3)) (hst : st = argsL.reverse ++ .ref a :: rest)
    (hW : (rest.map fun v => v.category).sum ≤ W) (hf : rm.frames + 1 ≤ R.frames) (hl : W + (maxL + 11) + rm.locals ≤ R.locals) (hc : cells + rm.cells ≤ R.cells) (hs : slots + rm.slots ≤ R.slots)
    (k : ∀ v T' L', Stand p l e R s m args below meth c T' (locs ++ L') (cells + rm.cells) (slots + rm.slots) → Qc v T'.heap L' → Go p e below F T' (mkF m (pc + 3) Ls (v.toList ++ rest))) : Go p e below F T (mkF m pc Ls st) := by
  obtain ⟨v, vm₁, ⟨T', L', k', n'⟩, -, X', ⟨Lc, hQ, l1, y1, z1⟩, stp⟩ := X.specialBack hx hy1 hown (mvT hZ wl) (mvT hZ wi) (mvT hZ wc) hy (backOf (W := W) hM hZ wc wz hf hl) (g := mkF m pc Ls st) rfl hsize (Steps.refl _) (a := a) hlen hst (by show 2 * 0 + _ ≤ _; omega) hd (fun _ _ => ⟨rfl, eT, hc, hs⟩)
  dsimp only [Pt.U, Pt.locs, Pt.cells, Pt.slots] at X' l1 y1 z1 stp hQ
  subst l1 y1 z1
  exact Go.via stp (k v T' Lc X' hQ)
theorem Go.callV (X : Stand p l e R s m args below meth c T locs cells slots) (hx : p.tables.exec = Jvm.exec) (hZ : Z.Warmed39 s.vm) (hown : s.vm.findClass own = some m.cls) {C : String}
    (wl : (Cond.methodLink own index y).before a0 Z = true) (wd : (Cond.declares y).before a0 Z = true) (hnf : NotFace s y) (wse : (Cond.selects C y z).before a0 Z = true) (wi : (Cond.instanceMethod z).before a0 Z = true) (wz : (Cond.initialized z.cls).before a0 Z = true) (wc : (Cond.code z bytes maxL ret).before a0 Z = true)
    (hy : y.cls ≠ "java/lang/invoke/MethodHandle" ∧ y.cls ≠ "java/lang/invoke/VarHandle") {a : Addr} (hM : MetAt l Z z bytes maxL ret rm (.ref a :: argsL).toArray h Qc) (eT : T.heap = h) (hE : Exa Z h a C) (hsize : Ls.size = c.maxLocals)
    (hlen : ∀ sig, parseMethodDescriptor y.desc = some sig → argsL.length = sig.parameters.length) (hd : decode c.code pc = .ok (.invokevirtual index, 3)) (hst : st = argsL.reverse ++ .ref a :: rest)
    (hW : (rest.map fun v => v.category).sum ≤ W) (hf : rm.frames + 1 ≤ R.frames) (hl : W + (maxL + 11) + rm.locals ≤ R.locals) (hc : cells + rm.cells ≤ R.cells) (hs : slots + rm.slots ≤ R.slots)
    (k : ∀ v T' L', Stand p l e R s m args below meth c T' (locs ++ L') (cells + rm.cells) (slots + rm.slots) → Qc v T'.heap L' → Go p e below F T' (mkF m (pc + 3) Ls (v.toList ++ rest))) : Go p e below F T (mkF m pc Ls st) := by
  obtain ⟨cq, kq, q1, q2, q3⟩ := isOf hZ eT hE
  obtain ⟨v, vm₁, ⟨T', L', k', n'⟩, -, X', ⟨Lc, hQ, l1, y1, z1⟩, stp⟩ := X.virtualBack hx (y := y) (z := z) hown (mvT hZ wl) (mvT hZ wd) hnf (mvT hZ wse) (mvT hZ wi) hy (backOf (W := W) hM hZ wc wz hf hl) q1 q3 (g := mkF m pc Ls st) rfl hsize (Steps.refl _) hlen hst (by show 2 * 0 + _ ≤ _; omega) hd (fun _ _ => ⟨rfl, eT, hc, hs⟩)
  dsimp only [Pt.U, Pt.locs, Pt.cells, Pt.slots] at X' l1 y1 z1 stp hQ
  subst l1 y1 z1
  exact Go.via stp (k v T' Lc X' hQ)
theorem Go.callVP (X : Stand p l e R s m args below meth c T locs cells slots) (hx : p.tables.exec = Jvm.exec) (hZ : Z.Warmed39 s.vm) (hown : s.vm.findClass own = some m.cls) {C : String}
    (wl : (Cond.methodLink own index y).before a0 Z = true) (wd : (Cond.declares y).before a0 Z = true) (hnf : NotFace s y) (wse : (Cond.selects C y z).before a0 Z = true) (wi : (Cond.instanceMethod z).before a0 Z = true) (wz : (Cond.initialized z.cls).before a0 Z = true) (wc : (Cond.code z bytes maxL ret).before a0 Z = true)
    (hy : y.cls ≠ "java/lang/invoke/MethodHandle" ∧ y.cls ≠ "java/lang/invoke/VarHandle") {a : Addr} {r : Option Value} {fr lo : Nat} (hM : MetAt l Z z bytes maxL ret { frames := fr, cells := 0, slots := 0, locals := lo } (.ref a :: argsL).toArray h (PQ h r)) (eT : T.heap = h) (hE : Exa Z h a C) (hsize : Ls.size = c.maxLocals)
    (hlen : ∀ sig, parseMethodDescriptor y.desc = some sig → argsL.length = sig.parameters.length) (hd : decode c.code pc = .ok (.invokevirtual index, 3)) (hst : st = argsL.reverse ++ .ref a :: rest)
    (hW : (rest.map fun v => v.category).sum ≤ W) (hf : fr + 1 ≤ R.frames) (hl : W + (maxL + 11) + lo ≤ R.locals) (hc : cells ≤ R.cells) (hs : slots ≤ R.slots)
    (k : ∀ T', Stand p l e R s m args below meth c T' locs cells slots → T'.heap = h → Go p e below F T' (mkF m (pc + 3) Ls (r.toList ++ rest))) : Go p e below F T (mkF m pc Ls st) := by
  refine Go.callV X hx hZ hown wl wd hnf wse wi wz wc hy hM eT hE hsize hlen hd hst hW hf hl hc hs fun v T' L' X' q => ?_
  obtain ⟨rfl, rfl, e'⟩ := q
  rw [List.append_nil] at X'
  exact k T' X' e'
theorem Go.callIP (X : Stand p l e R s m args below meth c T locs cells slots) (hx : p.tables.exec = Jvm.exec) (hZ : Z.Warmed39 s.vm) (hy1 : y.name = "<init>") (hown : s.vm.findClass own = some m.cls)
    (wl : (Cond.methodLink own index y).before a0 Z = true) (wi : (Cond.instanceMethod y).before a0 Z = true) (wz : (Cond.initialized y.cls).before a0 Z = true) (wc : (Cond.code y bytes maxL none).before a0 Z = true)
    (hy : y.cls ≠ "java/lang/invoke/MethodHandle" ∧ y.cls ≠ "java/lang/invoke/VarHandle") {a : Addr} {fr lo : Nat} (hM : MetAt l Z y bytes maxL none { frames := fr, cells := 0, slots := 0, locals := lo } (.ref a :: argsL).toArray h (PQ h none)) (eT : T.heap = h) (hsize : Ls.size = c.maxLocals)
    (hlen : ∀ sig, parseMethodDescriptor y.desc = some sig → argsL.length = sig.parameters.length) (hd : decode c.code pc = .ok (.invokespecial index, 3)) (hst : st = argsL.reverse ++ .ref a :: rest)
    (hW : (rest.map fun v => v.category).sum ≤ W) (hf : fr + 1 ≤ R.frames) (hl : W + (maxL + 11) + lo ≤ R.locals) (hc : cells ≤ R.cells) (hs : slots ≤ R.slots)
    (k : ∀ T', Stand p l e R s m args below meth c T' locs cells slots → T'.heap = h → Go p e below F T' (mkF m (pc + 3) Ls rest)) : Go p e below F T (mkF m pc Ls st) := by
  refine Go.callI X hx hZ hy1 hown wl wi wz wc hy hM eT hsize hlen hd hst hW hf hl hc hs fun v T' L' X' q => ?_
  obtain ⟨rfl, rfl, e'⟩ := q
  rw [List.append_nil] at X'
  exact k T' X' e'
end Going
end Jvm.RoadKit
namespace Jvm.RoadKit
open Sem ClassFile Op Lib Jvm.Stand Jvm.Free Jvm.LawKit
section Heaping
variable {p : Program} {l : Launch} {e : Env} {R : Room} {s : State} {m : MethodId} {args : Array Value} {below : List Frame} {meth : Method} {c : Code} {T : State} {locs : List Loc} {cells slots : Nat} {Fi : Option Value → State → Prop} {Z : State} {a0 : Array Value} {h : Heap} {a : Addr} {k : ClassId} {ty : FieldType} {z j x : Int32} {vs rest st : List Value} {dv v : Value} {pc : Nat} {Ls : Array Slot} {own C O n d host : String} {index nn : Nat}
theorem Arv.load (F : Arv Z h a k ty z vs dv) (hj : ¬ j < 0 ∧ j < z) : ∃ cl, Arr Z h a cl ty ∧ ¬ (j < 0 ∨ cl.slots.size ≤ j.toNatClampNeg) ∧ cl.slots[j.toNatClampNeg]? = some (vs.getD j.toNatClampNeg dv) := by
  obtain ⟨cl, A, -, S, -, H, -⟩ := F
  exact ⟨cl, A, inb_of S hj, H.at (inb_of S hj) rfl⟩
theorem Go.iaload (X : Stand p l e R s m args below meth c T locs cells slots) (hx : p.tables.exec = Jvm.exec) (hZ : Z.Warmed39 s.vm) (eT : T.heap = h) (F : Arv Z h a k .int z vs dv) (hj : ¬ j < 0 ∧ j < z) (hv : vs.getD j.toNatClampNeg dv = v) (hd : decode c.code pc = .ok (.iaload, 1)) (kk : Go p e below Fi T (mkF m (pc + 1) Ls (v :: rest))) : Go p e below Fi T (mkF m pc Ls (.int j :: .ref a :: rest)) := by
  obtain ⟨cl, A, i1, i2⟩ := F.load hj
  rw [hv] at i2
  exact Go.of (fun t q => X.iaload hx (by rw [eT]; exact A.1) (State.isArrayOf_alike hZ.alike A.2.1) A.2.2 i1 i2 (g := mkF m pc Ls (.int j :: .ref a :: rest)) rfl rfl hd t q) kk
theorem Go.laload (X : Stand p l e R s m args below meth c T locs cells slots) (hx : p.tables.exec = Jvm.exec) (hZ : Z.Warmed39 s.vm) (eT : T.heap = h) (F : Arv Z h a k .long z vs dv) (hj : ¬ j < 0 ∧ j < z) (hv : vs.getD j.toNatClampNeg dv = v) (hd : decode c.code pc = .ok (.laload, 1)) (kk : Go p e below Fi T (mkF m (pc + 1) Ls (v :: rest))) : Go p e below Fi T (mkF m pc Ls (.int j :: .ref a :: rest)) := by
  obtain ⟨cl, A, i1, i2⟩ := F.load hj
  rw [hv] at i2
  exact Go.of (fun t q => X.laload hx (by rw [eT]; exact A.1) (State.isArrayOf_alike hZ.alike A.2.1) A.2.2 i1 i2 (g := mkF m pc Ls (.int j :: .ref a :: rest)) rfl rfl hd t q) kk
theorem Go.baload (X : Stand p l e R s m args below meth c T locs cells slots) (hx : p.tables.exec = Jvm.exec) (hZ : Z.Warmed39 s.vm) (eT : T.heap = h) (F : Arv Z h a k .byte z vs dv) (hj : ¬ j < 0 ∧ j < z) (hv : vs.getD j.toNatClampNeg dv = v) (hd : decode c.code pc = .ok (.baload, 1)) (kk : Go p e below Fi T (mkF m (pc + 1) Ls (v :: rest))) : Go p e below Fi T (mkF m pc Ls (.int j :: .ref a :: rest)) := by
  obtain ⟨cl, A, i1, i2⟩ := F.load hj
  rw [hv] at i2
  exact Go.of (fun t q => X.baloadBytes hx (by rw [eT]; exact A.1) (State.isArrayOf_alike hZ.alike A.2.1) A.2.2 i1 i2 (g := mkF m pc Ls (.int j :: .ref a :: rest)) rfl rfl hd t q) kk
theorem Go.caload (X : Stand p l e R s m args below meth c T locs cells slots) (hx : p.tables.exec = Jvm.exec) (hZ : Z.Warmed39 s.vm) (eT : T.heap = h) (F : Arv Z h a k .char z vs dv) (hj : ¬ j < 0 ∧ j < z) (hv : vs.getD j.toNatClampNeg dv = v) (hd : decode c.code pc = .ok (.caload, 1)) (kk : Go p e below Fi T (mkF m (pc + 1) Ls (v :: rest))) : Go p e below Fi T (mkF m pc Ls (.int j :: .ref a :: rest)) := by
  obtain ⟨cl, A, i1, i2⟩ := F.load hj
  rw [hv] at i2
  exact Go.of (fun t q => X.caload hx (by rw [eT]; exact A.1) (State.isArrayOf_alike hZ.alike A.2.1) A.2.2 i1 i2 (g := mkF m pc Ls (.int j :: .ref a :: rest)) rfl rfl hd t q) kk
theorem Go.aaload (X : Stand p l e R s m args below meth c T locs cells slots) (hx : p.tables.exec = Jvm.exec) (hZ : Z.Warmed39 s.vm) (eT : T.heap = h) (F : Arv Z h a k ty z vs dv) (hty : ty.isReference = true) (hj : ¬ j < 0 ∧ j < z) (hv : vs.getD j.toNatClampNeg dv = v) (hd : decode c.code pc = .ok (.aaload, 1)) (kk : Go p e below Fi T (mkF m (pc + 1) Ls (v :: rest))) : Go p e below Fi T (mkF m pc Ls (.int j :: .ref a :: rest)) := by
  obtain ⟨cl, A, i1, i2⟩ := F.load hj
  rw [hv] at i2
  exact Go.of (fun t q => X.aaload hx (by rw [eT]; exact A.1) (State.isArrayOf_alike hZ.alike A.2.1) hty A.2.2 i1 i2 (g := mkF m pc Ls (.int j :: .ref a :: rest)) rfl rfl hd t q) kk
theorem Go.daload (X : Stand p l e R s m args below meth c T locs cells slots) (hx : p.tables.exec = Jvm.exec) (hZ : Z.Warmed39 s.vm) (eT : T.heap = h) (F : Arv Z h a k .double z vs dv) (hj : ¬ j < 0 ∧ j < z) (hv : vs.getD j.toNatClampNeg dv = v) (hd : decode c.code pc = .ok (.daload, 1)) (kk : Go p e below Fi T (mkF m (pc + 1) Ls (v :: rest))) : Go p e below Fi T (mkF m pc Ls (.int j :: .ref a :: rest)) := by
  obtain ⟨cl, A, i1, i2⟩ := F.load hj
  rw [hv] at i2
  exact Go.of (fun t q => X.daload hx (by rw [eT]; exact A.1) (State.isArrayOf_alike hZ.alike A.2.1) A.2.2 i1 i2 (g := mkF m pc Ls (.int j :: .ref a :: rest)) rfl rfl hd t q) kk
theorem Go.dastore {x : UInt64} (X : Stand p l e R s m args below meth c T locs cells slots) (hx : p.tables.exec = Jvm.exec) (hZ : Z.Warmed39 s.vm) (eT : T.heap = h) (F : Arv Z h a k .double z vs dv) (hj : ¬ j < 0 ∧ j < z) (i : Nat) (hji : j.toNatClampNeg = i) (hi : i < vs.length) (hd : decode c.code pc = .ok (.dastore, 1))
    (kk : ∀ T' h', Stand p l e R s m args below meth c T' (locs ++ [⟨a, i⟩]) cells slots → T'.heap = h' → Wr h h' a i (.double x) → Arv Z h' a k .double z (vs.set i (.double x)) dv → Go p e below Fi T' (mkF m (pc + 1) Ls rest)) : Go p e below Fi T (mkF m pc Ls (.double x :: .int j :: .ref a :: rest)) := by
  obtain ⟨cl, A, q, S, M, H, G⟩ := F
  subst hji
  obtain ⟨T', h', X', e', W', st⟩ := stD X hx hZ eT A (inb_of S hj) (g := mkF m pc Ls (.double x :: .int j :: .ref a :: rest)) rfl rfl hd
  exact Go.of st (kk T' h' X' e' W' (Arv.set A q S M H G rfl W' _ rfl hi))
theorem Go.len (X : Stand p l e R s m args below meth c T locs cells slots) (hx : p.tables.exec = Jvm.exec) (hZ : Z.Warmed39 s.vm) (eT : T.heap = h) (F : Arv Z h a k ty z vs dv) (hd : decode c.code pc = .ok (.arraylength, 1)) (kk : Go p e below Fi T (mkF m (pc + 1) Ls (.int z :: rest))) : Go p e below Fi T (mkF m pc Ls (.ref a :: rest)) := by
  obtain ⟨cl, A, -, S, M, -, -⟩ := F
  exact Go.of (fun t q => X.arraylength hx (a := a) (cell := cl) (ty := ty) (by rw [eT]; exact A.1) (State.isArrayOf_alike hZ.alike A.2.1) (g := mkF m pc Ls (.ref a :: rest)) rfl (rest := rest) rfl hd t (by rw [len_of S M]; exact q)) kk
theorem Go.iastore (X : Stand p l e R s m args below meth c T locs cells slots) (hx : p.tables.exec = Jvm.exec) (hZ : Z.Warmed39 s.vm) (eT : T.heap = h) (F : Arv Z h a k .int z vs dv) (hj : ¬ j < 0 ∧ j < z) (i : Nat) (hji : j.toNatClampNeg = i) (hi : i < vs.length) (hd : decode c.code pc = .ok (.iastore, 1))
    (kk : ∀ T' h', Stand p l e R s m args below meth c T' (locs ++ [⟨a, i⟩]) cells slots → T'.heap = h' → Wr h h' a i (.int x) → Arv Z h' a k .int z (vs.set i (.int x)) dv → Go p e below Fi T' (mkF m (pc + 1) Ls rest)) : Go p e below Fi T (mkF m pc Ls (.int x :: .int j :: .ref a :: rest)) := by
  obtain ⟨cl, A, q, S, M, H, G⟩ := F
  subst hji
  obtain ⟨T', h', X', e', W', st⟩ := stI X hx hZ eT A (inb_of S hj) (g := mkF m pc Ls (.int x :: .int j :: .ref a :: rest)) rfl rfl hd
  exact Go.of st (kk T' h' X' e' W' (Arv.set A q S M H G rfl W' _ rfl hi))
theorem Go.lastore {x : Int64} (X : Stand p l e R s m args below meth c T locs cells slots) (hx : p.tables.exec = Jvm.exec) (hZ : Z.Warmed39 s.vm) (eT : T.heap = h) (F : Arv Z h a k .long z vs dv) (hj : ¬ j < 0 ∧ j < z) (i : Nat) (hji : j.toNatClampNeg = i) (hi : i < vs.length) (hd : decode c.code pc = .ok (.lastore, 1))
    (kk : ∀ T' h', Stand p l e R s m args below meth c T' (locs ++ [⟨a, i⟩]) cells slots → T'.heap = h' → Wr h h' a i (.long x) → Arv Z h' a k .long z (vs.set i (.long x)) dv → Go p e below Fi T' (mkF m (pc + 1) Ls rest)) : Go p e below Fi T (mkF m pc Ls (.long x :: .int j :: .ref a :: rest)) := by
  obtain ⟨cl, A, q, S, M, H, G⟩ := F
  subst hji
  obtain ⟨T', h', X', e', W', st⟩ := stJ X hx hZ eT A (inb_of S hj) (g := mkF m pc Ls (.long x :: .int j :: .ref a :: rest)) rfl rfl hd
  exact Go.of st (kk T' h' X' e' W' (Arv.set A q S M H G rfl W' _ rfl hi))
theorem Go.bastore (X : Stand p l e R s m args below meth c T locs cells slots) (hx : p.tables.exec = Jvm.exec) (hZ : Z.Warmed39 s.vm) (eT : T.heap = h) (F : Arv Z h a k .byte z vs dv) (hj : ¬ j < 0 ∧ j < z) (i : Nat) (hji : j.toNatClampNeg = i) (hi : i < vs.length) (hd : decode c.code pc = .ok (.bastore, 1))
    (kk : ∀ T' h', Stand p l e R s m args below meth c T' (locs ++ [⟨a, i⟩]) cells slots → T'.heap = h' → Wr h h' a i (.int (nar .byte x)) → Arv Z h' a k .byte z (vs.set i (.int (nar .byte x))) dv → Go p e below Fi T' (mkF m (pc + 1) Ls rest)) : Go p e below Fi T (mkF m pc Ls (.int x :: .int j :: .ref a :: rest)) := by
  obtain ⟨cl, A, q, S, M, H, G⟩ := F
  subst hji
  obtain ⟨T', h', X', e', W', st⟩ := stB X hx hZ eT A (inb_of S hj) (g := mkF m pc Ls (.int x :: .int j :: .ref a :: rest)) rfl rfl hd
  exact Go.of st (kk T' h' X' e' W' (Arv.set A q S M H G (fits_nar_byte _) W' _ rfl hi))
theorem Go.castore (X : Stand p l e R s m args below meth c T locs cells slots) (hx : p.tables.exec = Jvm.exec) (hZ : Z.Warmed39 s.vm) (eT : T.heap = h) (F : Arv Z h a k .char z vs dv) (hj : ¬ j < 0 ∧ j < z) (i : Nat) (hji : j.toNatClampNeg = i) (hi : i < vs.length) (hd : decode c.code pc = .ok (.castore, 1))
    (kk : ∀ T' h', Stand p l e R s m args below meth c T' (locs ++ [⟨a, i⟩]) cells slots → T'.heap = h' → Wr h h' a i (.int (nar .char x)) → Arv Z h' a k .char z (vs.set i (.int (nar .char x))) dv → Go p e below Fi T' (mkF m (pc + 1) Ls rest)) : Go p e below Fi T (mkF m pc Ls (.int x :: .int j :: .ref a :: rest)) := by
  obtain ⟨cl, A, q, S, M, H, G⟩ := F
  subst hji
  obtain ⟨T', h', X', e', W', st⟩ := stC X hx hZ eT A (inb_of S hj) (g := mkF m pc Ls (.int x :: .int j :: .ref a :: rest)) rfl rfl hd
  exact Go.of st (kk T' h' X' e' W' (Arv.set A q S M H G (fits_nar_char _) W' _ rfl hi))
theorem Go.newarr (X : Stand p l e R s m args below meth c T locs cells slots) (hx : p.tables.exec = Jvm.exec) (hZ : Z.Warmed39 s.vm) {aty : ArrayType} (w : (Cond.arrayClass (newarray.typeOf aty)).before a0 Z = true) (eT : T.heap = h) (cap : Nat) (hn : ¬ z < 0) (hcap : z.toNatClampNeg = cap) (hb : cap * 8 ≤ 536870912) (hc : cells + 1 ≤ R.cells) (hl : slots + cap ≤ R.slots) (hd : decode c.code pc = .ok (.newarray aty, 2))
    (kk : ∀ T' h' b k, b = h.size → Stand p l e R s m args below meth c T' locs (cells + 1) (slots + cap) → T'.heap = h' → Ext h h' → Arv Z h' b k (newarray.typeOf aty) z (List.replicate cap (defaultValue (newarray.typeOf aty))) (defaultValue (newarray.typeOf aty)) → Go p e below Fi T' (mkF m (pc + 2) Ls (.ref b :: rest))) : Go p e below Fi T (mkF m pc Ls (.int z :: rest)) := by
  obtain ⟨T', h', kA, X', e', E', A', st⟩ := newP X hx hZ w eT (g := mkF m pc Ls (.int z :: rest)) rfl hd rfl hn (cap := cap) (Nat.le_of_eq hcap) hb hc hl
  exact Go.of st (kk T' h' _ kA rfl X' e' E' ((Arv.new A' hn).pad (pad_rep [] _ cap)))
theorem Go.newarrE (X : Stand p l e R s m args below meth c T locs cells slots) (hx : p.tables.exec = Jvm.exec) (hZ : Z.Warmed39 s.vm) {aty : ArrayType} {ad : String} (had : "[" ++ (newarray.typeOf aty).toString = ad) (w : (Cond.arrayClass (newarray.typeOf aty)).before a0 Z = true) (eT : T.heap = h) (cap : Nat) (hn : ¬ z < 0) (hcap : z.toNatClampNeg = cap) (hb : cap * 8 ≤ 536870912) (hc : cells + 1 ≤ R.cells) (hl : slots + cap ≤ R.slots) (hd : decode c.code pc = .ok (.newarray aty, 2))
    (kk : ∀ T' h' b k, b = h.size → Stand p l e R s m args below meth c T' locs (cells + 1) (slots + cap) → T'.heap = h' → Ext h h' → Arv Z h' b k (newarray.typeOf aty) z (List.replicate cap (defaultValue (newarray.typeOf aty))) (defaultValue (newarray.typeOf aty)) → Exa Z h' b ad → Go p e below Fi T' (mkF m (pc + 2) Ls (.ref b :: rest))) : Go p e below Fi T (mkF m pc Ls (.int z :: rest)) := by
  obtain ⟨T', h', kA, X', e', E', A', EA, st⟩ := newPE X hx hZ w eT (g := mkF m pc Ls (.int z :: rest)) rfl hd rfl hn (cap := cap) (Nat.le_of_eq hcap) hb hc hl had
  exact Go.of st (kk T' h' _ kA rfl X' e' E' ((Arv.new A' hn).pad (pad_rep [] _ cap)) EA)
theorem Go.clone (X : Stand p l e R s m args below meth c T locs cells slots) (hx : p.tables.exec = Jvm.exec) (hZ : Z.Warmed39 s.vm) {ad : String} (hown : s.vm.findClass own = some m.cls)
    (w1 : (Cond.methodLink own index ⟨ad, "clone", "()Ljava/lang/Object;"⟩).before a0 Z = true) (w2 : (Cond.sameMethod ad "java/lang/Object" "clone" "()Ljava/lang/Object;").before a0 Z = true) (w3 : (Cond.native ⟨"java/lang/Object", "clone", "()Ljava/lang/Object;"⟩).before a0 Z = true)
    (w4 : (Cond.instanceMethod ⟨"java/lang/Object", "clone", "()Ljava/lang/Object;"⟩).before a0 Z = true) (w5 : (Cond.selects ad ⟨ad, "clone", "()Ljava/lang/Object;"⟩ ⟨"java/lang/Object", "clone", "()Ljava/lang/Object;"⟩).before a0 Z = true) (w6 : (Cond.castable ad "java/lang/Cloneable").before a0 Z = true)
    (eT : T.heap = h) (F : Arv Z h a k ty z vs dv) (E : Exa Z h a ad) (hsize : Ls.size = c.maxLocals) (hd : decode c.code pc = .ok (.invokevirtual index, 3)) (hf : 1 ≤ R.frames) {W cap : Nat} (hW : (rest.map fun v => v.category).sum ≤ W) (hl : W + 14 ≤ R.locals) (hcap : z.toNatClampNeg ≤ cap) (hc : cells + 1 ≤ R.cells) (hsl : slots + cap ≤ R.slots)
    (kk : ∀ T' h' b, b = h.size → Stand p l e R s m args below meth c T' locs (cells + 1) (slots + cap) → T'.heap = h' → Ext h h' → Arv Z h' b k ty z vs dv → Exa Z h' b ad → Go p e below Fi T' (mkF m (pc + 3) Ls (.ref b :: rest))) : Go p e below Fi T (mkF m pc Ls (.ref a :: rest)) := by
  obtain ⟨cl, A, q1, S, q3, H, G⟩ := F
  have FC : FitC Z cl := fitC_of A fun i hi v hv => by rw [H i hi] at hv; cases hv; exact G i hi
  obtain ⟨T', h', X', e', ex, A', E', st⟩ := cloneA X hx hZ hown w1 w2 w3 w4 w5 w6 eT A E FC (g := mkF m pc Ls (.ref a :: rest)) rfl hsize rfl hd hf (by show 2 * 0 + _ ≤ W; omega) hl (by rw [S]; exact hcap) hc hsl
  exact Go.of st (kk T' h' _ rfl X' e' ex ⟨cloneOf cl, A', q1, S, q3, H, G⟩ E')
theorem Go.castTo (X : Stand p l e R s m args below meth c T locs cells slots) (hx : p.tables.exec = Jvm.exec) (hZ : Z.Warmed39 s.vm) (hown : s.vm.findClass own = some m.cls) {K : String} (w : (Cond.classLink own index K).before a0 Z = true) (eT : T.heap = h) (I : Ins Z h a K true) (hd : decode c.code pc = .ok (.checkcast index, 3))
    (kk : ∀ T', Stand p l e R s m args below meth c T' locs cells slots → T'.heap = h → Go p e below Fi T' (mkF m (pc + 3) Ls (.ref a :: rest))) : Go p e below Fi T (mkF m pc Ls (.ref a :: rest)) := by
  obtain ⟨T', X', e', st⟩ := castY X hx hZ hown w eT I (g := mkF m pc Ls (.ref a :: rest)) rfl rfl hd
  exact Go.of st (kk T' X' e')
theorem Go.new (X : Stand p l e R s m args below meth c T locs cells slots) (hx : p.tables.exec = Jvm.exec) (hZ : Z.Warmed39 s.vm) (hown : s.vm.findClass own = some m.cls) (w : (Cond.classLink own index C).before a0 Z = true) (wi : (Cond.instantiable C nn).before a0 Z = true) (wz : (Cond.initialized C).before a0 Z = true) (eT : T.heap = h) (hd : decode c.code pc = .ok (.new index, 3)) (hc : cells + 1 ≤ R.cells) (hl : slots + nn ≤ R.slots)
    (kk : ∀ T' h' b, b = h.size → Stand p l e R s m args below meth c T' locs (cells + 1) (slots + nn) → T'.heap = h' → Ext h h' → Exa Z h' b C → (∀ {O nm d : String} {ty : FieldType}, Laid Z a0 C O nm d → parseFieldDescriptor d = some ty → Fld Z h' b O nm d (defaultValue ty)) → Go p e below Fi T' (mkF m (pc + 3) Ls (.ref b :: st))) : Go p e below Fi T (mkF m pc Ls st) := by
  obtain ⟨T', h', X', e', E', A', D', -, stp⟩ := newO X hx hZ hown w wi wz eT (g := mkF m pc Ls st) rfl hd hc hl
  exact Go.of stp (kk T' h' _ rfl X' e' E' A' D')
theorem Go.getf (X : Stand p l e R s m args below meth c T locs cells slots) (hx : p.tables.exec = Jvm.exec) (hZ : Z.Warmed39 s.vm) (hown : s.vm.findClass own = some m.cls) {R0 : String} (w : (Cond.fieldLink own index R0 n d).before a0 Z = true) (via : Via Z R0 O n d) (eT : T.heap = h) (F : Fld Z h a O n d v) (hd : decode c.code pc = .ok (.getfield index, 3))
    (kk : ∀ T', Stand p l e R s m args below meth c T' locs cells slots → T'.heap = h → Go p e below Fi T' (mkF m (pc + 3) Ls (v :: rest))) : Go p e below Fi T (mkF m pc Ls (.ref a :: rest)) := by
  obtain ⟨T', X', e', st⟩ := getF X hx hZ hown (host := "") (Or.inl w) via eT F (g := mkF m pc Ls (.ref a :: rest)) rfl rfl hd
  exact Go.of st (kk T' X' e')
theorem Go.gets (X : Stand p l e R s m args below meth c T locs cells slots) (hx : p.tables.exec = Jvm.exec) (hZ : Z.Warmed39 s.vm) (hown : s.vm.findClass own = some m.cls) {R0 : String} (w : (Cond.fieldLink own index R0 n d).before a0 Z = true) (via : Via Z R0 O n d) (eT : T.heap = h) (F : Sta Z h O n d v) (hd : decode c.code pc = .ok (.getstatic index, 3))
    (kk : ∀ T', Stand p l e R s m args below meth c T' locs cells slots → T'.heap = h → Go p e below Fi T' (mkF m (pc + 3) Ls (v :: st))) : Go p e below Fi T (mkF m pc Ls st) := by
  obtain ⟨T', X', e', stp⟩ := getS2 X hx hZ hown (host := "") (Or.inl w) via eT F (g := mkF m pc Ls st) rfl hd
  exact Go.of stp (kk T' X' e')
theorem Go.putf (X : Stand p l e R s m args below meth c T locs cells slots) (hx : p.tables.exec = Jvm.exec) (hZ : Z.Warmed39 s.vm) (hown : s.vm.findClass own = some m.cls) {R0 : String} (w : (Cond.fieldLink own index R0 n d).before a0 Z = true) (via : Via Z R0 O n d) (eT : T.heap = h) {old : Value} (F : Fld Z h a O n d old) (E : Exa Z h a C) (L : (Cond.lays C O n d).before a0 Z = true ∨ ((Cond.laysFinal C O n d).before a0 Z = true ∧ own = O ∧ meth.name = "<init>")) (wi : (Cond.instantiable C nn).before a0 Z = true) (hty : parseFieldDescriptor d = some ty) {v' : Value} (hn : narrow ty v = v') (hf : fits ty v' = true) (hd : decode c.code pc = .ok (.putfield index, 3))
    (kk : ∀ T' h', Stand p l e R s m args below meth c T' (locs ++ [⟨a, slotOf Z O n d⟩]) cells slots → T'.heap = h' → Wr h h' a (slotOf Z O n d) v' → Fld Z h' a O n d v' → Exa Z h' a C → Go p e below Fi T' (mkF m (pc + 3) Ls rest)) : Go p e below Fi T (mkF m pc Ls (v :: .ref a :: rest)) := by
  obtain ⟨T', h', X', e', W', st⟩ := putFN X hx hZ hown w via eT F E L wi hty hn hf (g := mkF m pc Ls (v :: .ref a :: rest)) rfl rfl hd
  exact Go.of st (kk T' h' X' e' W' (F.same W') (E.wr W'))
theorem Go.initObj (X : Stand p l e R s m args below meth c T locs cells slots) (hx : p.tables.exec = Jvm.exec) (hZ : Z.Warmed39 s.vm) (hown : s.vm.findClass own = some m.cls) (w1 : (Cond.methodLink own index Lib.objectInit).before a0 Z = true) (w2 : (Cond.instanceMethod Lib.objectInit).before a0 Z = true) (w3 : (Cond.code Lib.objectInit ⟨#[0xb1]⟩ 1 none).before a0 Z = true) (eT : T.heap = h) (hsize : Ls.size = c.maxLocals) (hd : decode c.code pc = .ok (.invokespecial index, 3)) (hf : 1 ≤ R.frames) {W : Nat} (hW : (rest.map fun v => v.category).sum ≤ W) (hl : W + 12 ≤ R.locals)
    (kk : ∀ T', Stand p l e R s m args below meth c T' locs cells slots → T'.heap = h → Go p e below Fi T' (mkF m (pc + 3) Ls rest)) : Go p e below Fi T (mkF m pc Ls (.ref a :: rest)) := by
  obtain ⟨T', X', e', st⟩ := initO X hx hZ hown w1 w2 w3 eT (g := mkF m pc Ls (.ref a :: rest)) rfl hsize rfl hd hf (W := W) (by show 2 * 0 + _ ≤ _; omega) hl
  exact Go.of st (kk T' X' e')
end Heaping
end Jvm.RoadKit
namespace Jvm.RoadKit
open Sem ClassFile Op Lib Jvm.Stand Jvm.Free Jvm.LawKit
section Wide
variable {p : Program} {l : Launch} {e : Env} {R : Room} {s : State} {vm0 : Vm} {m : MethodId} {args : Array Value} {below : List Frame} {meth : Method} {c : Code} {T : State} {locs : List Loc} {cells slots : Nat} {K N k0 : Nat} {Q : Option Value → Heap → List Loc → Prop} {F : Option Value → State → Prop} {Z : State} {a0 : Array Value} {h : Heap}
/-- what is said of an end where Strings may have been interned -/
def GoEndW (s : State) (K N : Nat) (Q : Option Value → Heap → List Loc → Prop) (v : Option Value) (t : State) : Prop := ∃ L, Q v t.heap L ∧ ReturnedEndW s (.returned v) t L K N
abbrev MetAtW (l : Launch) (Z : State) (y : MethodName) (bytes : ByteArray) (maxL : Nat) (ret : Option FieldType) (rm : Room) (as' : Array Value) (h : Heap) (Q : Option Value → Heap → List Loc → Prop) : Prop :=
  MetFree l y (head1 [Cond.code y bytes maxL ret] rm) (fun a U => a = as' ∧ Z.Warmed39 U.vm ∧ U.heap = h) (fun _ _ _ _ _ => True) (fun _ U o U' => ∃ v L, o = .returned v ∧ Q v U'.heap L ∧ ReturnedEndW U o U' L rm.cells rm.slots)
theorem goBodyW {y : MethodName} {bytes : ByteArray} {maxL : Nat} {ret : Option FieldType} {ws : List Cond} {rm : Room} {as' : Array Value} (hp : plainFor y = true)
    (body : ∀ p e s m below meth c s₁, p.tables.exec = Jvm.exec → Z.Warmed39 s.vm → c.code = bytes → c.maxLocals = maxL → s.vm.findClass y.cls = some m.cls → meth.name = y.name → meth.sig.returnType = ret → meth.locks = false →
      Stand p l e rm (s.setVm s.vm) m as' below meth c s₁ [] 0 0 → s₁.heap = h → s.Since s.vm 0 → Go p e below (GoEndW s rm.cells rm.slots Q) s₁ (entryFrame m as' maxL)) :
    MetFree l y (head1 (Cond.code y bytes maxL ret :: ws) rm) (fun a U => a = as' ∧ Z.Warmed39 U.vm ∧ U.heap = h) (fun _ _ _ _ _ => True) (fun _ U o U' => ∃ v L, o = .returned v ∧ Q v U'.heap L ∧ ReturnedEndW U o U' L rm.cells rm.slots) := by
  refine MetFree.of_bodySF hp hisR ?_
  intro p e s m args below meth c s₁ Bd hml hP hK
  obtain ⟨rfl, hZ, hh⟩ := hP
  obtain ⟨s₂, o, h1, h2, h3, v, rfl, L, h4, h5⟩ := body p e s m below meth c s₁ Bd.exec hZ Bd.bytes hml (findClass_of_methodNamed Bd.named) (name_of_methodNamed Bd.named Bd.method).1 Bd.returns Bd.notSynchronized (Stand.of_body Bd) (by rw [← hh, Bd.state]; rfl) ((State.WarmedH.refl s).since 0)
  exact ⟨s₂, _, h1, h2, h3, v, L, rfl, h4, h5⟩
theorem endW_mono {s t : State} {o : Outcome} {L : List Loc} {k n k' n' : Nat} (hE : ReturnedEndW s o t L k n) (hk : k ≤ k') (hn : n ≤ n') : ReturnedEndW s o t L k' n' := ⟨hE.1, hE.2.1, hE.2.2.1, hE.2.2.2.mono hk hn⟩
theorem Go.retNW (X : Stand p l e R (s.setVm vm0) m args below meth c T locs cells slots) (hx : p.tables.exec = Jvm.exec) (hS : s.Since vm0 k0) (hk : k0 ≤ T.heap.size) (hlk : meth.locks = false) {pc : Nat} {Ls : Array Slot} {z : Int32} {t : FieldType} {rest : List Value} (hret : meth.sig.returnType = some t) (ht : t = .boolean ∨ t = .byte ∨ t = .char ∨ t = .short) (hd : decode c.code pc = .ok (.ireturn, 1)) (hK : cells ≤ K) (hN : slots ≤ N) (hq : Q (some (.int (nar t z))) T.heap locs) : Go p e below (GoEndW s K N Q) T (mkF m pc Ls (.int z :: rest)) := by
  obtain ⟨fs, hr, hrun, hended, hE⟩ := X.leaveW hS hk (v := some (.int (nar t z))) (fun h => by rw [hret] at h; cases h) hlk
  exact ⟨_, _, Jvm.RoadKit.retN X hx (t := t) hret ht hd hr, hrun, hended, _, rfl, _, hq, endW_mono hE hK hN⟩
theorem Go.retAW (X : Stand p l e R (s.setVm vm0) m args below meth c T locs cells slots) (hx : p.tables.exec = Jvm.exec) (hS : s.Since vm0 k0) (hk : k0 ≤ T.heap.size) (hlk : meth.locks = false) {pc : Nat} {Ls : Array Slot} {v : Value} {t : FieldType} {rest : List Value} (hret : meth.sig.returnType = some t) (ht : t.isReference = true) (hv : v.isRef = true) (hn : narrow t v = v) (hd : decode c.code pc = .ok (.areturn, 1)) (hK : cells ≤ K) (hN : slots ≤ N) (hq : Q (some v) T.heap locs) : Go p e below (GoEndW s K N Q) T (mkF m pc Ls (v :: rest)) := by
  obtain ⟨fs, hr, hrun, hended, hE⟩ := X.leaveW hS hk (v := some v) (fun h => by rw [hret] at h; cases h) hlk
  exact ⟨_, _, retOut X hx (t := t) (i := .areturn) hret hn (Or.inr (Or.inr (Or.inr (Or.inr ⟨rfl, ht, hv⟩)))) hd hr, hrun, hended, _, rfl, _, hq, endW_mono hE hK hN⟩
theorem Go.retVW (X : Stand p l e R (s.setVm vm0) m args below meth c T locs cells slots) (hx : p.tables.exec = Jvm.exec) (hS : s.Since vm0 k0) (hk : k0 ≤ T.heap.size) (hlk : meth.locks = false) {pc : Nat} {Ls : Array Slot} (hret : meth.sig.returnType = none) (hd : decode c.code pc = .ok (.return_, 1)) (hK : cells ≤ K) (hN : slots ≤ N) (hq : Q none T.heap locs) : Go p e below (GoEndW s K N Q) T (mkF m pc Ls []) := by
  obtain ⟨fs, hr, hrun, hended, hE⟩ := X.leaveW hS hk (v := none) (fun _ => rfl) hlk
  exact ⟨_, _, X.returnOut hx hret hd hr, hrun, hended, _, rfl, _, hq, endW_mono hE hK hN⟩
variable {own : String} {index : Nat} {y z : MethodName} {bytes : ByteArray} {maxL W pc : Nat} {ret : Option FieldType} {rm : Room} {Qc : Option Value → Heap → List Loc → Prop} {argsL rest st : List Value} {Ls : Array Slot}
theorem Go.ldcS (X : Stand p l e R (s.setVm vm0) m args below meth c T locs cells slots) (hx : p.tables.exec = Jvm.exec) (hZ : Z.Warmed39 vm0) (hown : vm0.findClass own = some m.cls) {text : String} (w : (Cond.stringLink own index text).before a0 Z = true) (wS : ∀ a ∈ Bundle.stringAtoms, a.before a0 Z = true) (eT : T.heap = h) (hS : s.Since vm0 k0) (hk : k0 ≤ h.size) (hd : decode c.code pc = .ok (.ldc index, 2)) (n : Nat) (hn : 4 * text.toList.length ≤ n) (hbig : n ≤ 536870912) (hc : cells + 2 ≤ R.cells) (hl : slots + (n + 4) ≤ R.slots)
    (kk : ∀ a T' h' k1, Stand p l e R (s.setVm T'.vm) m args below meth c T' locs (cells + 2) (slots + (n + 4)) → T'.heap = h' → Ext h h' → s.Since T'.vm k1 → k1 ≤ h'.size → Z.Warmed39 T'.vm → T'.vm.findClass own = some m.cls → Go p e below F T' (mkF m (pc + 2) Ls (.ref a :: st))) : Go p e below F T (mkF m pc Ls st) := by
  obtain ⟨a, T', h', k1, X', e', E', hS', hk', hZ', hown', stp⟩ := Jvm.RoadKit.ldcS X hx hZ hown w wS eT hS hk (g := mkF m pc Ls st) rfl hd hn hbig hc hl
  exact Go.of stp (kk a T' h' k1 X' e' E' hS' hk' hZ' hown')
theorem backOfW {len : Nat} {as' : Array Value} (hM : MetAtW l Z y bytes maxL ret rm as' h Qc) (hZ : Z.Warmed39 s.vm) (wc : (Cond.code y bytes maxL ret).before a0 Z = true) (wz : (Cond.initialized y.cls).before a0 Z = true) (hf : rm.frames + 1 ≤ R.frames) (hl : W + (maxL + 11) + rm.locals ≤ R.locals) :
    BackS l R p e below s args y len W (fun A a => a = as' ∧ A.U.heap = h ∧ A.cells + rm.cells ≤ R.cells ∧ A.slots + rm.slots ≤ R.slots)
      (fun A _ v B => ∃ L, Qc v B.U.heap L ∧ B.locs = A.locs ++ L ∧ B.cells = A.cells + rm.cells ∧ B.slots = A.slots + rm.slots) :=
  BackS.of_freeW (bytes := bytes) (maxL := maxL) (ret := ret) (E := fun _ _ o t L k n => k = rm.cells ∧ n = rm.slots ∧ ∃ v, o = .returned v ∧ Qc v t.heap L) hM hf hl
    (fun m meth c A a Y hp => have hU : Z.Warmed39 A.U.vm := wtrans hZ Y.warmed
      ⟨by show (Cond.and _ .tt).before a A.U = true; rw [Cond.before_and, mv hU wc]; rfl, mv hU wc, mv hU wz, hp.2.2.1, hp.2.2.2⟩)
    (fun m meth c A a g mk Y hp => ⟨hp.1, wtrans hZ Y.warmed, hp.2.1⟩) (fun _ _ _ _ _ _ _ _ _ => trivial)
    (fun _ _ _ _ ⟨v, L, h1, h2, h3⟩ => ⟨L, _, _, h3, rfl, rfl, v, h1, h2⟩)
    (fun m meth c A a g mk v t L k n Y hp _ _ ⟨e1, e2, v', e3, e4⟩ => by cases e3; subst e1 e2; exact ⟨L, e4, rfl, rfl, rfl⟩)
theorem Go.callIW (X : Stand p l e R (s.setVm vm0) m args below meth c T locs cells slots) (hx : p.tables.exec = Jvm.exec) (hZ : Z.Warmed39 vm0) (hy1 : y.name = "<init>") (hown : vm0.findClass own = some m.cls)
    (wl : (Cond.methodLink own index y).before a0 Z = true) (wi : (Cond.instanceMethod y).before a0 Z = true) (wz : (Cond.initialized y.cls).before a0 Z = true) (wc : (Cond.code y bytes maxL none).before a0 Z = true)
    (hy : y.cls ≠ "java/lang/invoke/MethodHandle" ∧ y.cls ≠ "java/lang/invoke/VarHandle") {a : Addr} (hM : MetAtW l Z y bytes maxL none rm (.ref a :: argsL).toArray h Qc) (eT : T.heap = h) (hS : s.Since vm0 k0) (hk : k0 ≤ h.size) (hsize : Ls.size = c.maxLocals)
    (hlen : ∀ sig, parseMethodDescriptor y.desc = some sig → argsL.length = sig.parameters.length) (hd : decode c.code pc = .ok (.invokespecial index, 3)) (hst : st = argsL.reverse ++ .ref a :: rest)
    (hW : (rest.map fun v => v.category).sum ≤ W) (hf : rm.frames + 1 ≤ R.frames) (hl : W + (maxL + 11) + rm.locals ≤ R.locals) (hc : cells + rm.cells ≤ R.cells) (hs : slots + rm.slots ≤ R.slots)
    (kk : ∀ v T' L', Stand p l e R (s.setVm T'.vm) m args below meth c T' (locs ++ L') (cells + rm.cells) (slots + rm.slots) → s.Since T'.vm T'.heap.size → Z.Warmed39 T'.vm → T'.vm.findClass own = some m.cls → Qc v T'.heap L' → Go p e below F T' (mkF m (pc + 3) Ls (v.toList ++ rest))) : Go p e below F T (mkF m pc Ls st) := by
  have hZ' : Z.Warmed39 (s.setVm vm0).vm := hZ
  obtain ⟨v, vm₁, ⟨T', L', k', n'⟩, -, X', hS', hgr, ⟨Lc, hQ, l1, y1, z1⟩, stp⟩ := X.specialBackS hx hy1 hown (mvT hZ' wl) (mvT hZ' wi) (mvT hZ' wc) hy (backOfW (W := W) hM hZ' wc wz hf hl) (g := mkF m pc Ls st) rfl hsize (Steps.refl _) (a := a) hlen hst (by show 2 * 0 + _ ≤ _; omega) hd (fun _ _ => ⟨rfl, eT, hc, hs⟩)
  dsimp only [Pt.U, Pt.locs, Pt.cells, Pt.slots] at X' l1 y1 z1 stp hQ hS' hgr
  subst l1 y1 z1
  exact Go.via stp (kk v T' Lc X' (hS.trans hS' (Nat.le_trans hk (by rw [← eT]; exact hgr))) (State.Warmed39.trans (t := s.setVm vm0) hZ' hS'.1) (by rw [hS'.1.alike.findClass]; exact hown) hQ)
theorem Go.callVW (X : Stand p l e R (s.setVm vm0) m args below meth c T locs cells slots) (hx : p.tables.exec = Jvm.exec) (hZ : Z.Warmed39 vm0) (hown : vm0.findClass own = some m.cls) {C : String}
    (wl : (Cond.methodLink own index y).before a0 Z = true) (wd : (Cond.declares y).before a0 Z = true) (hnf : NotFace (s.setVm vm0) y) (wse : (Cond.selects C y z).before a0 Z = true) (wi : (Cond.instanceMethod z).before a0 Z = true) (wz : (Cond.initialized z.cls).before a0 Z = true) (wc : (Cond.code z bytes maxL ret).before a0 Z = true)
    (hy : y.cls ≠ "java/lang/invoke/MethodHandle" ∧ y.cls ≠ "java/lang/invoke/VarHandle") {a : Addr} (hM : MetAtW l Z z bytes maxL ret rm (.ref a :: argsL).toArray h Qc) (eT : T.heap = h) (hE : Exa Z h a C) (hS : s.Since vm0 k0) (hk : k0 ≤ h.size) (hsize : Ls.size = c.maxLocals)
    (hlen : ∀ sig, parseMethodDescriptor y.desc = some sig → argsL.length = sig.parameters.length) (hd : decode c.code pc = .ok (.invokevirtual index, 3)) (hst : st = argsL.reverse ++ .ref a :: rest)
    (hW : (rest.map fun v => v.category).sum ≤ W) (hf : rm.frames + 1 ≤ R.frames) (hl : W + (maxL + 11) + rm.locals ≤ R.locals) (hc : cells + rm.cells ≤ R.cells) (hs : slots + rm.slots ≤ R.slots)
    (kk : ∀ v T' L', Stand p l e R (s.setVm T'.vm) m args below meth c T' (locs ++ L') (cells + rm.cells) (slots + rm.slots) → s.Since T'.vm T'.heap.size → Z.Warmed39 T'.vm → T'.vm.findClass own = some m.cls → Qc v T'.heap L' → Go p e below F T' (mkF m (pc + 3) Ls (v.toList ++ rest))) : Go p e below F T (mkF m pc Ls st) := by
  have hZ' : Z.Warmed39 (s.setVm vm0).vm := hZ
  obtain ⟨cq, kq, q1, q2, q3⟩ := isOf hZ' eT hE
  obtain ⟨v, vm₁, ⟨T', L', k', n'⟩, -, X', hS', hgr, ⟨Lc, hQ, l1, y1, z1⟩, stp⟩ := X.virtualBackS hx (y := y) (z := z) hown (mvT hZ' wl) (mvT hZ' wd) hnf (mvT hZ' wse) (mvT hZ' wi) hy (backOfW (W := W) hM hZ' wc wz hf hl) q1 q3 (g := mkF m pc Ls st) rfl hsize (Steps.refl _) hlen hst (by show 2 * 0 + _ ≤ _; omega) hd (fun _ _ => ⟨rfl, eT, hc, hs⟩)
  dsimp only [Pt.U, Pt.locs, Pt.cells, Pt.slots] at X' l1 y1 z1 stp hQ hS' hgr
  subst l1 y1 z1
  exact Go.via stp (kk v T' Lc X' (hS.trans hS' (Nat.le_trans hk (by rw [← eT]; exact hgr))) (State.Warmed39.trans (t := s.setVm vm0) hZ' hS'.1) (by rw [hS'.1.alike.findClass]; exact hown) hQ)
end Wide
end Jvm.RoadKit
namespace Jvm.Pilot.@@N@@
open Jvm Jvm.ClassFile Sem Op Lib Jvm.Free Jvm.Stand Jvm.LawKit Jvm.RoadKit Bundle Jvm.Pilot.@@N@@.Jvm.D
def own_min (x y : Int32) : Int32 := if y < x then y else x
theorem own_max : (2147483647 : Int32).toInt = 2147483647 := rfl
theorem own_c0 : (0 : Int32).toInt = 0 := rfl
theorem own_k {x y : Int32} (h : x &&& 3 = y) : 0 ≤ y.toInt ∧ y.toInt ≤ 3 := by
  have := Jvm.Kit.i32_mask x 3 (k := 2) (by decide) (by decide); rw [← h, this]; omega
theorem own_k3 {y : Int32} (h : 0 ≤ y.toInt ∧ y.toInt ≤ 3) (h0 : ¬ y = 0) (h1 : ¬ y = 1) (h2 : ¬ y = 2) : y = 3 := by
  have n0 : ¬ y.toInt = 0 := fun z => h0 (Int32.toInt_inj.mp z)
  have n1 : ¬ y.toInt = 1 := fun z => h1 (Int32.toInt_inj.mp z)
  have n2 : ¬ y.toInt = 2 := fun z => h2 (Int32.toInt_inj.mp z)
  exact Int32.toInt_inj.mp (by show y.toInt = 3; omega)
theorem own_first {x k f : Int32} (hk : 0 ≤ k.toInt ∧ k.toInt ≤ 3) (h : own_min (x &&& 2147483647) (2147483647 - k) = f) : 0 ≤ f.toInt ∧ f.toInt + k.toInt ≤ 2147483647 := by
  have m := Jvm.Kit.i32_mask x 2147483647 (k := 31) (by decide) (by decide)
  have e : ((2147483647 : Int32) - k).toInt = 2147483647 - k.toInt := by rw [Jvm.Kit.i32_sub (by rw [own_max]; omega) (by rw [own_max]; omega), own_max]
  rw [← h, own_min]
  split
  · rw [e]; omega
  · rename_i q
    rw [Int32.lt_iff_toInt_lt, e] at q
    rw [m] at q ⊢; omega
theorem own_nn {x : Int32} (h : 0 ≤ x.toInt) : ¬ x < 0 := by rw [Int32.lt_iff_toInt_lt, own_c0]; omega
theorem own_cmpL {x y : Int64} (h : x.toInt ≤ y.toInt) : ¬ (0 : Int32) < XS.cmpL x y := by
  unfold XS.cmpL
  split
  · rename_i q; have q : y < x := q; rw [Int64.lt_iff_toInt_lt] at q; omega
  · split <;> decide
theorem own_cmp0 {x y : Int64} (h : x = y) : XS.cmpL x y = 0 := by
  subst h; simp [XS.cmpL]
theorem own_long {f : Int32} {z : Int64} {n : Nat} (hz : z.toInt = n) (hn : n ≤ 4) : (f.toInt64 + z - 1).toInt = f.toInt + n - 1 := by
  have h1 := f.toInt_lt; have h2 := f.le_toInt
  have o : (1 : Int64).toInt = 1 := rfl
  have e1 : (f.toInt64 + z).toInt = f.toInt + n := by rw [Jvm.Kit.i64_add (by rw [Int32.toInt_toInt64, hz]; omega) (by rw [Int32.toInt_toInt64, hz]; omega), Int32.toInt_toInt64, hz]
  rw [Jvm.Kit.i64_sub (by rw [e1, o]; omega) (by rw [e1, o]; omega), e1, o]
theorem own_sum {f z : Int32} {n : Nat} (hf : 0 ≤ f.toInt) (hz : z.toInt = n) (hn : 1 ≤ n) (h : f.toInt + (n - 1 : Nat) ≤ 2147483647) : (f + z - 1).toInt = f.toInt + (n - 1 : Nat) := by
  have o : (1 : Int32).toInt = 1 := rfl
  rw [Int32.toInt_sub, Int32.toInt_add, hz, o, Int.bmod_sub_bmod, Int.bmod_eq_of_le (by omega) (by omega)]; omega
theorem own_same {f z : Int32} {w : Int64} {n : Nat} (hf : 0 ≤ f.toInt) (hz : z.toInt = n) (hw : w.toInt = n) (hn : 1 ≤ n) (hn4 : n ≤ 4) (h : f.toInt + (n - 1 : Nat) ≤ 2147483647) : (f + z - 1).toInt64 = f.toInt64 + w - 1 := by
  apply Int64.toInt_inj.mp
  rw [Int32.toInt_toInt64, own_sum hf hz hn h, own_long hw hn4]; omega
theorem own_ge {f z : Int32} {n : Nat} (hf : 0 ≤ f.toInt) (hz : z.toInt = n) (hn : 1 ≤ n) (h : f.toInt + (n - 1 : Nat) ≤ 2147483647) : ¬ (f + z - 1) < f := by
  rw [Int32.lt_iff_toInt_lt, own_sum hf hz hn h]; omega
theorem own_back (f z : Int32) : f + z - 1 - f = z - 1 := by
  rw [Int32.add_comm f z, Int32.sub_sub, Int32.add_comm 1 f, ← Int32.sub_sub, Int32.add_sub_cancel]
theorem own_dsc0 : parseMethodDescriptor "(Ljava/lang/Object;Ljava/lang/String;)Ljava/lang/Object;" = some ⟨[(.object "java/lang/Object"), (.object "java/lang/String")], some (.object "java/lang/Object")⟩ := by decide +kernel
theorem own_dsc1 : parseMethodDescriptor "()I" = some ⟨[], some .int⟩ := by decide +kernel
theorem own_dsc2 : parseMethodDescriptor "(I)V" = some ⟨[.int], none⟩ := by decide +kernel
theorem own_dsc3 : parseMethodDescriptor "(II)I" = some ⟨[.int, .int], some .int⟩ := by decide +kernel
theorem own_dsc4 : parseMethodDescriptor "(Ljava/lang/String;I[D)V" = some ⟨[(.object "java/lang/String"), .int, (.array .double)], none⟩ := by decide +kernel
theorem own_dsc5 : parseMethodDescriptor "(I)D" = some ⟨[.int], some .double⟩ := by decide +kernel
theorem own_nd0 : decode jdk_29_method_69_code 0 = .ok (.iload_n 0, 1) := by decide +kernel
theorem own_nd1 : decode jdk_29_method_69_code 1 = .ok (.iload_n 1, 1) := by decide +kernel
theorem own_nd2 : decode jdk_29_method_69_code 2 = .ok (.if_icmp .gt 7, 3) := by decide +kernel
theorem own_nd5 : decode jdk_29_method_69_code 5 = .ok (.iload_n 0, 1) := by decide +kernel
theorem own_nd6 : decode jdk_29_method_69_code 6 = .ok (.goto 4, 3) := by decide +kernel
theorem own_nd9 : decode jdk_29_method_69_code 9 = .ok (.iload_n 1, 1) := by decide +kernel
theorem own_nd10 : decode jdk_29_method_69_code 10 = .ok (.ireturn, 1) := by decide +kernel
set_option maxRecDepth 65536 in
set_option maxHeartbeats 40000000 in
theorem own_rmMin (l : Launch) (Z : State) (a0 : Array Value) (hw : ∀ d ∈ tables_1, d.before a0 Z = true) (x y : Int32) (h0 : Heap)  :
    MetFree l (⟨"java/lang/Math", "min", "(II)I"⟩ : MethodName) (head1 [Jvm.Cond.code (⟨"java/lang/Math", "min", "(II)I"⟩ : MethodName) jdk_29_method_69_code 2 (some .int)] ({ frames := 0, cells := 0, slots := 0, locals := 0 } : Room)) (fun aa U => aa = #[(.int x), (.int y)] ∧ Z.Warmed39 U.vm ∧ U.heap = h0) (fun _ _ _ _ _ => True) (fun _ U o U' => ∃ v L, o = .returned v ∧ (PQ h0 (some (.int (own_min x y)))) v U'.heap L ∧ FrameEnd U o U' L ({ frames := 0, cells := 0, slots := 0, locals := 0 } : Room).cells ({ frames := 0, cells := 0, slots := 0, locals := 0 } : Room).slots) := by
  refine goBody (y := (⟨"java/lang/Math", "min", "(II)I"⟩ : MethodName)) (Q := PQ h0 (some (.int (own_min x y)))) (Jvm.Free.JP.mathPlain rfl (by decide +kernel)) ?_
  intro p e s m below meth c T0 hx hZ hby hml hown hnm hret hlk X0 e0
  have hown : s.vm.findClass "java/lang/Math" = some m.cls := hown
  refine Go.cast (g' := mkF m 0 #[.val (.int x), .val (.int y)] []) (by first | (simp [entryFrame, mkF, argsToLocals, Value.category]; done) | rfl) ?_
  show Go p e below _ T0 (mkF m 0 #[.val (.int x), .val (.int y)] [])
  refine Go.of (fun _ kz => XS.iloadN X0.here hx rfl (hb hby own_nd0) rfl kz) ?_
  show Go p e below _ T0 (mkF m 1 #[.val (.int x), .val (.int y)] [(.int x)])
  refine Go.of (fun _ kz => XS.iloadN X0.here hx rfl (hb hby own_nd1) rfl kz) ?_
  show Go p e below _ T0 (mkF m 2 #[.val (.int x), .val (.int y)] [(.int y), (.int x)])
  by_cases hc2 : y < x
  ·
    refine Go.of (fun _ kz => XS.icmpYes X0.here hx rfl (pc0 := 2) (pc' := 9) rfl (hb hby own_nd2) rfl (tlt hc2).2.2.1 (by decide) (by decide) kz) ?_
    show Go p e below _ T0 (mkF m 9 #[.val (.int x), .val (.int y)] [])
    refine Go.of (fun _ kz => XS.iloadN X0.here hx rfl (hb hby own_nd9) rfl kz) ?_
    show Go p e below _ T0 (mkF m 10 #[.val (.int x), .val (.int y)] [(.int y)])
    exact Go.retI X0 hx hlk hret (hb hby own_nd10) (by decide) (by decide) ⟨congrArg (fun z => some (Value.int z)) (show y = own_min x y by simp [own_min, hc2]), rfl, e0⟩
  ·
    refine Go.of (fun _ kz => XS.icmpNo X0.here hx rfl (hb hby own_nd2) rfl (flt hc2).2.2.1 kz) ?_
    show Go p e below _ T0 (mkF m 5 #[.val (.int x), .val (.int y)] [])
    refine Go.of (fun _ kz => XS.iloadN X0.here hx rfl (hb hby own_nd5) rfl kz) ?_
    show Go p e below _ T0 (mkF m 6 #[.val (.int x), .val (.int y)] [(.int x)])
    refine Go.of (fun _ kz => XS.goto X0.here hx rfl (pc0 := 6) (pc' := 10) rfl (hb hby own_nd6) (by decide) (by decide) kz) ?_
    show Go p e below _ T0 (mkF m 10 #[.val (.int x), .val (.int y)] [(.int x)])
    exact Go.retI X0 hx hlk hret (hb hby own_nd10) (by decide) (by decide) ⟨congrArg (fun z => some (Value.int z)) (show x = own_min x y by simp [own_min, hc2]), rfl, e0⟩
theorem own_qd0 : decode jdk_31_method_11_code 0 = .ok (.aload_n 0, 1) := by decide +kernel
theorem own_qd1 : decode jdk_31_method_11_code 1 = .ok (.ifnonnull 12, 3) := by decide +kernel
theorem own_qd13 : decode jdk_31_method_11_code 13 = .ok (.aload_n 0, 1) := by decide +kernel
theorem own_qd14 : decode jdk_31_method_11_code 14 = .ok (.areturn, 1) := by decide +kernel
set_option maxRecDepth 65536 in
set_option maxHeartbeats 40000000 in
theorem own_rmQ (l : Launch) (Z : State) (a0 : Array Value) (hw : ∀ d ∈ tables_1, d.before a0 Z = true) (a b : Addr) (h0 : Heap)  :
    MetFree l (⟨"java/util/Objects", "requireNonNull", "(Ljava/lang/Object;Ljava/lang/String;)Ljava/lang/Object;"⟩ : MethodName) (head1 [Jvm.Cond.code (⟨"java/util/Objects", "requireNonNull", "(Ljava/lang/Object;Ljava/lang/String;)Ljava/lang/Object;"⟩ : MethodName) jdk_31_method_11_code 2 (some (.object "java/lang/Object"))] ({ frames := 0, cells := 0, slots := 0, locals := 0 } : Room)) (fun aa U => aa = #[(.ref a), (.ref b)] ∧ Z.Warmed39 U.vm ∧ U.heap = h0) (fun _ _ _ _ _ => True) (fun _ U o U' => ∃ v L, o = .returned v ∧ (PQ h0 (some (.ref a))) v U'.heap L ∧ FrameEnd U o U' L ({ frames := 0, cells := 0, slots := 0, locals := 0 } : Room).cells ({ frames := 0, cells := 0, slots := 0, locals := 0 } : Room).slots) := by
  refine goBody (y := (⟨"java/util/Objects", "requireNonNull", "(Ljava/lang/Object;Ljava/lang/String;)Ljava/lang/Object;"⟩ : MethodName)) (Q := PQ h0 (some (.ref a))) (plainFor_of_name (by first | (simp [plainName, overriddenIn]; done) | decide +kernel)) ?_
  intro p e s m below meth c T0 hx hZ hby hml hown hnm hret hlk X0 e0
  have hown : s.vm.findClass "java/util/Objects" = some m.cls := hown
  refine Go.cast (g' := mkF m 0 #[.val (.ref a), .val (.ref b)] []) (by first | (simp [entryFrame, mkF, argsToLocals, Value.category]; done) | rfl) ?_
  show Go p e below _ T0 (mkF m 0 #[.val (.ref a), .val (.ref b)] [])
  refine Go.of (fun _ kz => XS.aloadN X0.here hx rfl (hb hby own_qd0) rfl rfl kz) ?_
  show Go p e below _ T0 (mkF m 1 #[.val (.ref a), .val (.ref b)] [(.ref a)])
  refine Go.of (fun _ kz => XS.ifnonnullYes X0.here hx rfl (pc0 := 1) (pc' := 13) rfl (hb hby own_qd1) rfl (by decide) (by decide) kz) ?_
  show Go p e below _ T0 (mkF m 13 #[.val (.ref a), .val (.ref b)] [])
  refine Go.of (fun _ kz => XS.aloadN X0.here hx rfl (hb hby own_qd13) rfl rfl kz) ?_
  show Go p e below _ T0 (mkF m 14 #[.val (.ref a), .val (.ref b)] [(.ref a)])
  exact Go.retA X0 hx hlk hret rfl rfl rfl (hb hby own_qd14) (by decide) (by decide) ⟨rfl, rfl, e0⟩
theorem own_c1_d0 : decode prog_6_method_1_code 0 = .ok (.aload_n 0, 1) := by decide +kernel
theorem own_c1_d1 : decode prog_6_method_1_code 1 = .ok (.invokespecial 1, 3) := by decide +kernel
theorem own_c1_d4 : decode prog_6_method_1_code 4 = .ok (.aload_n 1, 1) := by decide +kernel
theorem own_c1_d5 : decode prog_6_method_1_code 5 = .ok (.ldc 7, 2) := by decide +kernel
theorem own_c1_d7 : decode prog_6_method_1_code 7 = .ok (.invokestatic 9, 3) := by decide +kernel
theorem own_c1_d10 : decode prog_6_method_1_code 10 = .ok (.pop, 1) := by decide +kernel
theorem own_c1_d11 : decode prog_6_method_1_code 11 = .ok (.iload_n 2, 1) := by decide +kernel
theorem own_c1_d12 : decode prog_6_method_1_code 12 = .ok (.ifCond .ge 17, 3) := by decide +kernel
theorem own_c1_d29 : decode prog_6_method_1_code 29 = .ok (.aload_n 3, 1) := by decide +kernel
theorem own_c1_d30 : decode prog_6_method_1_code 30 = .ok (.arraylength, 1) := by decide +kernel
theorem own_c1_d31 : decode prog_6_method_1_code 31 = .ok (.ifCond .ne 13, 3) := by decide +kernel
theorem own_c1_d44 : decode prog_6_method_1_code 44 = .ok (.iload_n 2, 1) := by decide +kernel
theorem own_c1_d45 : decode prog_6_method_1_code 45 = .ok (.i2l, 1) := by decide +kernel
theorem own_c1_d46 : decode prog_6_method_1_code 46 = .ok (.aload_n 3, 1) := by decide +kernel
theorem own_c1_d47 : decode prog_6_method_1_code 47 = .ok (.arraylength, 1) := by decide +kernel
theorem own_c1_d48 : decode prog_6_method_1_code 48 = .ok (.i2l, 1) := by decide +kernel
theorem own_c1_d49 : decode prog_6_method_1_code 49 = .ok (.ladd, 1) := by decide +kernel
theorem own_c1_d50 : decode prog_6_method_1_code 50 = .ok (.lconst 1, 1) := by decide +kernel
theorem own_c1_d51 : decode prog_6_method_1_code 51 = .ok (.lsub, 1) := by decide +kernel
theorem own_c1_d52 : decode prog_6_method_1_code 52 = .ok (.ldc2_w 28, 3) := by decide +kernel
theorem own_c1_d55 : decode prog_6_method_1_code 55 = .ok (.lcmp, 1) := by decide +kernel
theorem own_c1_d56 : decode prog_6_method_1_code 56 = .ok (.ifCond .le 13, 3) := by decide +kernel
theorem own_c1_d69 : decode prog_6_method_1_code 69 = .ok (.iconst 0, 1) := by decide +kernel
theorem own_c1_d70 : decode prog_6_method_1_code 70 = .ok (.istore 4, 2) := by decide +kernel
theorem own_c1_d72 : decode prog_6_method_1_code 72 = .ok (.iload 4, 2) := by decide +kernel
theorem own_c1_d74 : decode prog_6_method_1_code 74 = .ok (.aload_n 3, 1) := by decide +kernel
theorem own_c1_d75 : decode prog_6_method_1_code 75 = .ok (.arraylength, 1) := by decide +kernel
theorem own_c1_d76 : decode prog_6_method_1_code 76 = .ok (.if_icmp .ge 48, 3) := by decide +kernel
theorem own_c1_d79 : decode prog_6_method_1_code 79 = .ok (.aload_n 3, 1) := by decide +kernel
theorem own_c1_d80 : decode prog_6_method_1_code 80 = .ok (.iload 4, 2) := by decide +kernel
theorem own_c1_d82 : decode prog_6_method_1_code 82 = .ok (.daload, 1) := by decide +kernel
theorem own_c1_d83 : decode prog_6_method_1_code 83 = .ok (.dstore 5, 2) := by decide +kernel
theorem own_c1_d85 : decode prog_6_method_1_code 85 = .ok (.dload 5, 2) := by decide +kernel
theorem own_c1_d87 : decode prog_6_method_1_code 87 = .ok (.dconst 0, 1) := by decide +kernel
theorem own_c1_d88 : decode prog_6_method_1_code 88 = .ok (.dcmp .l, 1) := by decide +kernel
theorem own_c1_d89 : decode prog_6_method_1_code 89 = .ok (.ifCond .lt 10, 3) := by decide +kernel
theorem own_c1_d92 : decode prog_6_method_1_code 92 = .ok (.dload 5, 2) := by decide +kernel
theorem own_c1_d94 : decode prog_6_method_1_code 94 = .ok (.dconst 1, 1) := by decide +kernel
theorem own_c1_d95 : decode prog_6_method_1_code 95 = .ok (.dcmp .g, 1) := by decide +kernel
theorem own_c1_d96 : decode prog_6_method_1_code 96 = .ok (.ifCond .le 22, 3) := by decide +kernel
theorem own_c1_d118 : decode prog_6_method_1_code 118 = .ok (.iinc 4 1, 3) := by decide +kernel
theorem own_c1_d121 : decode prog_6_method_1_code 121 = .ok (.goto (-49), 3) := by decide +kernel
theorem own_c1_d124 : decode prog_6_method_1_code 124 = .ok (.aload_n 0, 1) := by decide +kernel
theorem own_c1_d125 : decode prog_6_method_1_code 125 = .ok (.aload_n 1, 1) := by decide +kernel
theorem own_c1_d126 : decode prog_6_method_1_code 126 = .ok (.putfield 35, 3) := by decide +kernel
theorem own_c1_d129 : decode prog_6_method_1_code 129 = .ok (.aload_n 0, 1) := by decide +kernel
theorem own_c1_d130 : decode prog_6_method_1_code 130 = .ok (.iload_n 2, 1) := by decide +kernel
theorem own_c1_d131 : decode prog_6_method_1_code 131 = .ok (.putfield 40, 3) := by decide +kernel
theorem own_c1_d134 : decode prog_6_method_1_code 134 = .ok (.aload_n 0, 1) := by decide +kernel
theorem own_c1_d135 : decode prog_6_method_1_code 135 = .ok (.aload_n 3, 1) := by decide +kernel
theorem own_c1_d136 : decode prog_6_method_1_code 136 = .ok (.invokevirtual 44, 3) := by decide +kernel
theorem own_c1_d139 : decode prog_6_method_1_code 139 = .ok (.checkcast 45, 3) := by decide +kernel
theorem own_c1_d142 : decode prog_6_method_1_code 142 = .ok (.putfield 50, 3) := by decide +kernel
theorem own_c1_d145 : decode prog_6_method_1_code 145 = .ok (.return_, 1) := by decide +kernel
abbrev own_rmC1_Q (Z : State) (a nm : Addr) (fi : Int32) (ar : Addr) (kr : ClassId) (n0 : Nat) (h0 : Heap) : Option Value → Heap → List Loc → Prop := fun v h L => v = none ∧ Fr n0 L ∧ Keep h0 h [a] ∧ Exa Z h a "com/example/vestry/vestry/actuarial/MortalityTable" ∧ Fld Z h a "com/example/vestry/vestry/actuarial/MortalityTable" "minimumAge" "I" (.int fi) ∧ ∃ b kb, Fld Z h a "com/example/vestry/vestry/actuarial/MortalityTable" "rates" "[D" (.ref b) ∧ h0.size ≤ b ∧ Arv Z h b kb .double (1 : Int32) [(.double (4602678819172646912 : UInt64))] (.double 0)
set_option maxRecDepth 65536 in
set_option maxHeartbeats 40000000 in
theorem own_rmC1 (l : Launch) (Z : State) (a0 : Array Value) (hw : ∀ d ∈ tables_1, d.before a0 Z = true) (a nm : Addr) (fi : Int32) (ar : Addr) (kr : ClassId) (n0 : Nat) (h0 : Heap) (Z0 : n0 ≤ h0.size) (ga : n0 ≤ a) (gar : n0 ≤ ar) (hne : ar ≠ a) (hp1 : ¬ fi < 0) (hp2 : ¬ (0 : Int32) < XS.cmpL ((fi.toInt64 + (1 : Int64)) - (1 : Int64)) (2147483647 : Int64)) (EA : Exa Z h0 a "com/example/vestry/vestry/actuarial/MortalityTable") (F_name : Fld Z h0 a "com/example/vestry/vestry/actuarial/MortalityTable" "name" "Ljava/lang/String;" .null) (F_minimumAge : Fld Z h0 a "com/example/vestry/vestry/actuarial/MortalityTable" "minimumAge" "I" (.int 0)) (F_rates : Fld Z h0 a "com/example/vestry/vestry/actuarial/MortalityTable" "rates" "[D" .null) (VR : Arv Z h0 ar kr .double (1 : Int32) [(.double (4602678819172646912 : UInt64))] (.double 0)) (ER : Exa Z h0 ar "[D") :
    MetFree l (⟨"com/example/vestry/vestry/actuarial/MortalityTable", "<init>", "(Ljava/lang/String;I[D)V"⟩ : MethodName) (head1 [Jvm.Cond.code (⟨"com/example/vestry/vestry/actuarial/MortalityTable", "<init>", "(Ljava/lang/String;I[D)V"⟩ : MethodName) prog_6_method_1_code 7 none] ({ frames := 1, cells := 3, slots := 21, locals := 26 } : Room)) (fun aa U => aa = #[(.ref a), (.ref nm), (.int fi), (.ref ar)] ∧ Z.Warmed39 U.vm ∧ U.heap = h0) (fun _ _ _ _ _ => True) (fun _ U o U' => ∃ v L, o = .returned v ∧ ((own_rmC1_Q Z a nm fi ar kr n0 h0)) v U'.heap L ∧ ReturnedEndW U o U' L ({ frames := 1, cells := 3, slots := 21, locals := 26 } : Room).cells ({ frames := 1, cells := 3, slots := 21, locals := 26 } : Room).slots) := by
  refine goBodyW (y := (⟨"com/example/vestry/vestry/actuarial/MortalityTable", "<init>", "(Ljava/lang/String;I[D)V"⟩ : MethodName)) (Q := (own_rmC1_Q Z a nm fi ar kr n0 h0)) (plainFor_of_name (by first | (simp [plainName, overriddenIn]; done) | decide +kernel)) ?_
  intro p e s m below meth c T0 hx hZ hby hml hown hnm hret hlk X0 e0 hS
  have wS : ∀ d ∈ Bundle.stringAtoms, d.before a0 Z = true := fun d hd => by
    simp only [Bundle.stringAtoms, List.mem_cons, List.not_mem_nil, or_false] at hd
    rcases hd with rfl | rfl | rfl | rfl | rfl | rfl | rfl
    · exact (hw _ (List.mem_of_getElem? (i := 13) rfl))
    · exact (hw _ (List.mem_of_getElem? (i := 14) rfl))
    · exact (hw _ (List.mem_of_getElem? (i := 15) rfl))
    · exact (hw _ (List.mem_of_getElem? (i := 16) rfl))
    · exact (hw _ (List.mem_of_getElem? (i := 17) rfl))
    · exact (hw _ (List.mem_of_getElem? (i := 18) rfl))
    · exact (hw _ (List.mem_of_getElem? (i := 19) rfl))
  have hk : 0 ≤ h0.size := Nat.zero_le _
  have hown : s.vm.findClass "com/example/vestry/vestry/actuarial/MortalityTable" = some m.cls := hown
  refine Go.cast (g' := mkF m 0 #[.val (.ref a), .val (.ref nm), .val (.int fi), .val (.ref ar), .unset, .unset, .unset] []) (by first | (simp [entryFrame, mkF, argsToLocals, Value.category]; done) | rfl) ?_
  show Go p e below _ T0 (mkF m 0 #[.val (.ref a), .val (.ref nm), .val (.int fi), .val (.ref ar), .unset, .unset, .unset] [])
  refine Go.of (fun _ kz => XS.aloadN X0.here hx rfl (hb hby own_c1_d0) rfl rfl kz) ?_
  show Go p e below _ T0 (mkF m 1 #[.val (.ref a), .val (.ref nm), .val (.int fi), .val (.ref ar), .unset, .unset, .unset] [(.ref a)])
  refine Go.initObj X0 hx hZ hown (hw _ (List.mem_of_getElem? (i := 23) rfl)) (hw _ (List.mem_of_getElem? (i := 24) rfl)) (hw _ (List.mem_of_getElem? (i := 25) rfl)) e0 (by rw [hml]; rfl) (hb hby own_c1_d1) (by decide) (W := 0) (Nat.le_of_eq rfl) (by decide) fun T1 X1 e1 => ?_
  show Go p e below _ T1 (mkF m 4 #[.val (.ref a), .val (.ref nm), .val (.int fi), .val (.ref ar), .unset, .unset, .unset] [])
  refine Go.of (fun _ kz => XS.aloadN X1.here hx rfl (hb hby own_c1_d4) rfl rfl kz) ?_
  show Go p e below _ T1 (mkF m 5 #[.val (.ref a), .val (.ref nm), .val (.int fi), .val (.ref ar), .unset, .unset, .unset] [(.ref nm)])
  refine Go.ldcS X1 hx hZ hown (hw _ (List.mem_of_getElem? (i := 26) rfl)) wS e1 hS hk (hb hby own_c1_d5) 16 (by decide) (by decide) (by decide) (by decide) fun b2 T2 h2 k2 X2 e2 E2 hS hk2 hZ hown => ?_
  have sz2 : n0 ≤ h2.size := Nat.le_trans Z0 E2.1
  have kp2 : Keep h0 h2 [a] := (Keep.refl h0 [a]).ext E2
  show Go p e below _ T2 (mkF m 7 #[.val (.ref a), .val (.ref nm), .val (.int fi), .val (.ref ar), .unset, .unset, .unset] [(.ref b2), (.ref nm)])
  refine Go.callSP (W := 0) (y := (⟨"java/util/Objects", "requireNonNull", "(Ljava/lang/Object;Ljava/lang/String;)Ljava/lang/Object;"⟩ : MethodName)) (argsL := [(.ref nm), (.ref b2)]) (rest := []) (r := some (.ref nm)) X2 hx hZ hown (hw _ (List.mem_of_getElem? (i := 27) rfl)) (hw _ (List.mem_of_getElem? (i := 28) rfl)) (hw _ (List.mem_of_getElem? (i := 29) rfl)) (hw _ (List.mem_of_getElem? (i := 30) rfl)) (by decide) (own_rmQ l Z a0 hw nm b2 h2) e2 (by rw [hml]; rfl) (lenOf own_dsc0 rfl) (hb hby own_c1_d7) rfl (Nat.le_of_eq rfl) (by decide) (by decide) (by decide) (by decide) fun T3 X3 e3 => ?_
  show Go p e below _ T3 (mkF m 10 #[.val (.ref a), .val (.ref nm), .val (.int fi), .val (.ref ar), .unset, .unset, .unset] [(.ref nm)])
  refine Go.of (fun _ kz => XS.pop X3.here hx rfl (hb hby own_c1_d10) rfl rfl kz) ?_
  show Go p e below _ T3 (mkF m 11 #[.val (.ref a), .val (.ref nm), .val (.int fi), .val (.ref ar), .unset, .unset, .unset] [])
  refine Go.of (fun _ kz => XS.iloadN X3.here hx rfl (hb hby own_c1_d11) rfl kz) ?_
  show Go p e below _ T3 (mkF m 12 #[.val (.ref a), .val (.ref nm), .val (.int fi), .val (.ref ar), .unset, .unset, .unset] [(.int fi)])
  refine Go.of (fun _ kz => XS.ifYes X3.here hx rfl (pc0 := 12) (pc' := 29) rfl (hb hby own_c1_d12) rfl ((if0 _ _).trans (flt hp1).2.1) (by decide) (by decide) kz) ?_
  show Go p e below _ T3 (mkF m 29 #[.val (.ref a), .val (.ref nm), .val (.int fi), .val (.ref ar), .unset, .unset, .unset] [])
  refine Go.of (fun _ kz => XS.aloadN X3.here hx rfl (hb hby own_c1_d29) rfl rfl kz) ?_
  show Go p e below _ T3 (mkF m 30 #[.val (.ref a), .val (.ref nm), .val (.int fi), .val (.ref ar), .unset, .unset, .unset] [(.ref ar)])
  refine Go.len X3 hx hZ e3 (VR.ext E2) (hb hby own_c1_d30) ?_
  show Go p e below _ T3 (mkF m 31 #[.val (.ref a), .val (.ref nm), .val (.int fi), .val (.ref ar), .unset, .unset, .unset] [(.int (1 : Int32))])
  refine Go.of (fun _ kz => XS.ifYes X3.here hx rfl (pc0 := 31) (pc' := 44) rfl (hb hby own_c1_d31) rfl ((if0 _ _).trans (feq (by decide : ¬ ((1 : Int32) = (0 : Int32)))).2) (by decide) (by decide) kz) ?_
  show Go p e below _ T3 (mkF m 44 #[.val (.ref a), .val (.ref nm), .val (.int fi), .val (.ref ar), .unset, .unset, .unset] [])
  refine Go.of (fun _ kz => XS.iloadN X3.here hx rfl (hb hby own_c1_d44) rfl kz) ?_
  show Go p e below _ T3 (mkF m 45 #[.val (.ref a), .val (.ref nm), .val (.int fi), .val (.ref ar), .unset, .unset, .unset] [(.int fi)])
  refine Go.of (fun _ kz => XS.i2l X3.here hx rfl (hb hby own_c1_d45) rfl kz) ?_
  show Go p e below _ T3 (mkF m 46 #[.val (.ref a), .val (.ref nm), .val (.int fi), .val (.ref ar), .unset, .unset, .unset] [(.long (fi.toInt64))])
  refine Go.of (fun _ kz => XS.aloadN X3.here hx rfl (hb hby own_c1_d46) rfl rfl kz) ?_
  show Go p e below _ T3 (mkF m 47 #[.val (.ref a), .val (.ref nm), .val (.int fi), .val (.ref ar), .unset, .unset, .unset] [(.ref ar), (.long (fi.toInt64))])
  refine Go.len X3 hx hZ e3 (VR.ext E2) (hb hby own_c1_d47) ?_
  show Go p e below _ T3 (mkF m 48 #[.val (.ref a), .val (.ref nm), .val (.int fi), .val (.ref ar), .unset, .unset, .unset] [(.int (1 : Int32)), (.long (fi.toInt64))])
  refine Go.of (fun _ kz => XS.i2l X3.here hx rfl (hb hby own_c1_d48) rfl kz) ?_
  show Go p e below _ T3 (mkF m 49 #[.val (.ref a), .val (.ref nm), .val (.int fi), .val (.ref ar), .unset, .unset, .unset] [(.long (1 : Int64)), (.long (fi.toInt64))])
  refine Go.of (fun _ kz => XS.ladd X3.here hx rfl (hb hby own_c1_d49) rfl kz) ?_
  show Go p e below _ T3 (mkF m 50 #[.val (.ref a), .val (.ref nm), .val (.int fi), .val (.ref ar), .unset, .unset, .unset] [(.long ((fi.toInt64) + (1 : Int64)))])
  refine Go.of (fun _ kz => XS.lconst X3.here hx rfl (hb hby own_c1_d50) kz) ?_
  show Go p e below _ T3 (mkF m 51 #[.val (.ref a), .val (.ref nm), .val (.int fi), .val (.ref ar), .unset, .unset, .unset] [(.long (1 : Int64)), (.long ((fi.toInt64) + (1 : Int64)))])
  refine Go.of (fun _ kz => XS.lsub X3.here hx rfl (hb hby own_c1_d51) rfl kz) ?_
  show Go p e below _ T3 (mkF m 52 #[.val (.ref a), .val (.ref nm), .val (.int fi), .val (.ref ar), .unset, .unset, .unset] [(.long (((fi.toInt64) + (1 : Int64)) - (1 : Int64)))])
  refine Go.of (X3.ldc2Long hx hown (mvT hZ (hw _ (List.mem_of_getElem? (i := 31) rfl))) (g := (mkF m 52 #[.val (.ref a), .val (.ref nm), .val (.int fi), .val (.ref ar), .unset, .unset, .unset] [(.long (((fi.toInt64) + (1 : Int64)) - (1 : Int64)))])) rfl (hb hby own_c1_d52)) ?_
  show Go p e below _ T3 (mkF m 55 #[.val (.ref a), .val (.ref nm), .val (.int fi), .val (.ref ar), .unset, .unset, .unset] [(.long (2147483647 : Int64)), (.long (((fi.toInt64) + (1 : Int64)) - (1 : Int64)))])
  refine Go.of (fun _ kz => XS.lcmp X3.here hx rfl (hb hby own_c1_d55) rfl kz) ?_
  show Go p e below _ T3 (mkF m 56 #[.val (.ref a), .val (.ref nm), .val (.int fi), .val (.ref ar), .unset, .unset, .unset] [(.int (XS.cmpL (((fi.toInt64) + (1 : Int64)) - (1 : Int64)) (2147483647 : Int64)))])
  refine Go.of (fun _ kz => XS.ifYes X3.here hx rfl (pc0 := 56) (pc' := 69) rfl (hb hby own_c1_d56) rfl ((if0 _ _).trans (flt hp2).2.2.2) (by decide) (by decide) kz) ?_
  show Go p e below _ T3 (mkF m 69 #[.val (.ref a), .val (.ref nm), .val (.int fi), .val (.ref ar), .unset, .unset, .unset] [])
  refine Go.of (fun _ kz => XS.iconst X3.here hx rfl (hb hby own_c1_d69) kz) ?_
  show Go p e below _ T3 (mkF m 70 #[.val (.ref a), .val (.ref nm), .val (.int fi), .val (.ref ar), .unset, .unset, .unset] [(.int (0 : Int32))])
  refine Go.of (fun _ kz => XS.istore X3.here hx rfl (hb hby own_c1_d70) rfl (l' := #[.val (.ref a), .val (.ref nm), .val (.int fi), .val (.ref ar), .val (.int (0 : Int32)), .unset, .unset]) rfl kz) ?_
  show Go p e below _ T3 (mkF m 72 #[.val (.ref a), .val (.ref nm), .val (.int fi), .val (.ref ar), .val (.int (0 : Int32)), .unset, .unset] [])
  refine Go.of (fun _ kz => XS.iload X3.here hx rfl (hb hby own_c1_d72) rfl kz) ?_
  show Go p e below _ T3 (mkF m 74 #[.val (.ref a), .val (.ref nm), .val (.int fi), .val (.ref ar), .val (.int (0 : Int32)), .unset, .unset] [(.int (0 : Int32))])
  refine Go.of (fun _ kz => XS.aloadN X3.here hx rfl (hb hby own_c1_d74) rfl rfl kz) ?_
  show Go p e below _ T3 (mkF m 75 #[.val (.ref a), .val (.ref nm), .val (.int fi), .val (.ref ar), .val (.int (0 : Int32)), .unset, .unset] [(.ref ar), (.int (0 : Int32))])
  refine Go.len X3 hx hZ e3 (VR.ext E2) (hb hby own_c1_d75) ?_
  show Go p e below _ T3 (mkF m 76 #[.val (.ref a), .val (.ref nm), .val (.int fi), .val (.ref ar), .val (.int (0 : Int32)), .unset, .unset] [(.int (1 : Int32)), (.int (0 : Int32))])
  refine Go.of (fun _ kz => XS.icmpNo X3.here hx rfl (hb hby own_c1_d76) rfl (tlt (by decide : (0 : Int32) < (1 : Int32))).2.1 kz) ?_
  show Go p e below _ T3 (mkF m 79 #[.val (.ref a), .val (.ref nm), .val (.int fi), .val (.ref ar), .val (.int (0 : Int32)), .unset, .unset] [])
  refine Go.of (fun _ kz => XS.aloadN X3.here hx rfl (hb hby own_c1_d79) rfl rfl kz) ?_
  show Go p e below _ T3 (mkF m 80 #[.val (.ref a), .val (.ref nm), .val (.int fi), .val (.ref ar), .val (.int (0 : Int32)), .unset, .unset] [(.ref ar)])
  refine Go.of (fun _ kz => XS.iload X3.here hx rfl (hb hby own_c1_d80) rfl kz) ?_
  show Go p e below _ T3 (mkF m 82 #[.val (.ref a), .val (.ref nm), .val (.int fi), .val (.ref ar), .val (.int (0 : Int32)), .unset, .unset] [(.int (0 : Int32)), (.ref ar)])
  refine Go.daload X3 hx hZ e3 (VR.ext E2) ⟨by decide, by decide⟩ (v := (.double (4602678819172646912 : UInt64))) rfl (hb hby own_c1_d82) ?_
  show Go p e below _ T3 (mkF m 83 #[.val (.ref a), .val (.ref nm), .val (.int fi), .val (.ref ar), .val (.int (0 : Int32)), .unset, .unset] [(.double (4602678819172646912 : UInt64))])
  refine Go.of (fun _ kz => XS.dstore X3.here hx rfl (hb hby own_c1_d83) rfl (l' := #[.val (.ref a), .val (.ref nm), .val (.int fi), .val (.ref ar), .val (.int (0 : Int32)), .val (.double (4602678819172646912 : UInt64)), .second]) rfl kz) ?_
  show Go p e below _ T3 (mkF m 85 #[.val (.ref a), .val (.ref nm), .val (.int fi), .val (.ref ar), .val (.int (0 : Int32)), .val (.double (4602678819172646912 : UInt64)), .second] [])
  refine Go.of (fun _ kz => XS.dload X3.here hx rfl (hb hby own_c1_d85) rfl kz) ?_
  show Go p e below _ T3 (mkF m 87 #[.val (.ref a), .val (.ref nm), .val (.int fi), .val (.ref ar), .val (.int (0 : Int32)), .val (.double (4602678819172646912 : UInt64)), .second] [(.double (4602678819172646912 : UInt64))])
  refine Go.of (fun _ kz => XS.dconst0 X3.here hx rfl (hb hby own_c1_d87) (v := 0) (by decide +kernel) kz) ?_
  show Go p e below _ T3 (mkF m 88 #[.val (.ref a), .val (.ref nm), .val (.int fi), .val (.ref ar), .val (.int (0 : Int32)), .val (.double (4602678819172646912 : UInt64)), .second] [(.double (0 : UInt64)), (.double (4602678819172646912 : UInt64))])
  refine Go.of (fun _ kz => XS.dcmpS X3.here hx rfl (hb hby own_c1_d88) rfl rfl kz) ?_
  show Go p e below _ T3 (mkF m 89 #[.val (.ref a), .val (.ref nm), .val (.int fi), .val (.ref ar), .val (.int (0 : Int32)), .val (.double (4602678819172646912 : UInt64)), .second] [(.int (cmpValue (FP.dcmp (4602678819172646912 : UInt64) (0 : UInt64)) .l))])
  refine Go.of (fun _ kz => XS.ifNo X3.here hx rfl (hb hby own_c1_d89) rfl ((if0 _ _).trans (flt (by decide +kernel : ¬ (cmpValue (FP.dcmp (4602678819172646912 : UInt64) (0 : UInt64)) .l) < (0 : Int32))).1) kz) ?_
  show Go p e below _ T3 (mkF m 92 #[.val (.ref a), .val (.ref nm), .val (.int fi), .val (.ref ar), .val (.int (0 : Int32)), .val (.double (4602678819172646912 : UInt64)), .second] [])
  refine Go.of (fun _ kz => XS.dload X3.here hx rfl (hb hby own_c1_d92) rfl kz) ?_
  show Go p e below _ T3 (mkF m 94 #[.val (.ref a), .val (.ref nm), .val (.int fi), .val (.ref ar), .val (.int (0 : Int32)), .val (.double (4602678819172646912 : UInt64)), .second] [(.double (4602678819172646912 : UInt64))])
  refine Go.of (fun _ kz => XS.dconst1 X3.here hx rfl (hb hby own_c1_d94) (v := 4607182418800017408) (by decide +kernel) kz) ?_
  show Go p e below _ T3 (mkF m 95 #[.val (.ref a), .val (.ref nm), .val (.int fi), .val (.ref ar), .val (.int (0 : Int32)), .val (.double (4602678819172646912 : UInt64)), .second] [(.double (4607182418800017408 : UInt64)), (.double (4602678819172646912 : UInt64))])
  refine Go.of (fun _ kz => XS.dcmpS X3.here hx rfl (hb hby own_c1_d95) rfl rfl kz) ?_
  show Go p e below _ T3 (mkF m 96 #[.val (.ref a), .val (.ref nm), .val (.int fi), .val (.ref ar), .val (.int (0 : Int32)), .val (.double (4602678819172646912 : UInt64)), .second] [(.int (cmpValue (FP.dcmp (4602678819172646912 : UInt64) (4607182418800017408 : UInt64)) .g))])
  refine Go.of (fun _ kz => XS.ifYes X3.here hx rfl (pc0 := 96) (pc' := 118) rfl (hb hby own_c1_d96) rfl ((if0 _ _).trans (flt (by decide +kernel : ¬ (0 : Int32) < (cmpValue (FP.dcmp (4602678819172646912 : UInt64) (4607182418800017408 : UInt64)) .g))).2.2.2) (by decide) (by decide) kz) ?_
  show Go p e below _ T3 (mkF m 118 #[.val (.ref a), .val (.ref nm), .val (.int fi), .val (.ref ar), .val (.int (0 : Int32)), .val (.double (4602678819172646912 : UInt64)), .second] [])
  refine Go.of (fun _ kz => XS.iinc X3.here hx rfl (hb hby own_c1_d118) rfl (l' := #[.val (.ref a), .val (.ref nm), .val (.int fi), .val (.ref ar), .val (.int (1 : Int32)), .val (.double (4602678819172646912 : UInt64)), .second]) rfl kz) ?_
  show Go p e below _ T3 (mkF m 121 #[.val (.ref a), .val (.ref nm), .val (.int fi), .val (.ref ar), .val (.int (1 : Int32)), .val (.double (4602678819172646912 : UInt64)), .second] [])
  refine Go.of (fun _ kz => XS.goto X3.here hx rfl (pc0 := 121) (pc' := 72) rfl (hb hby own_c1_d121) (by decide) (by decide) kz) ?_
  show Go p e below _ T3 (mkF m 72 #[.val (.ref a), .val (.ref nm), .val (.int fi), .val (.ref ar), .val (.int (1 : Int32)), .val (.double (4602678819172646912 : UInt64)), .second] [])
  refine Go.of (fun _ kz => XS.iload X3.here hx rfl (hb hby own_c1_d72) rfl kz) ?_
  show Go p e below _ T3 (mkF m 74 #[.val (.ref a), .val (.ref nm), .val (.int fi), .val (.ref ar), .val (.int (1 : Int32)), .val (.double (4602678819172646912 : UInt64)), .second] [(.int (1 : Int32))])
  refine Go.of (fun _ kz => XS.aloadN X3.here hx rfl (hb hby own_c1_d74) rfl rfl kz) ?_
  show Go p e below _ T3 (mkF m 75 #[.val (.ref a), .val (.ref nm), .val (.int fi), .val (.ref ar), .val (.int (1 : Int32)), .val (.double (4602678819172646912 : UInt64)), .second] [(.ref ar), (.int (1 : Int32))])
  refine Go.len X3 hx hZ e3 (VR.ext E2) (hb hby own_c1_d75) ?_
  show Go p e below _ T3 (mkF m 76 #[.val (.ref a), .val (.ref nm), .val (.int fi), .val (.ref ar), .val (.int (1 : Int32)), .val (.double (4602678819172646912 : UInt64)), .second] [(.int (1 : Int32)), (.int (1 : Int32))])
  refine Go.of (fun _ kz => XS.icmpYes X3.here hx rfl (pc0 := 76) (pc' := 124) rfl (hb hby own_c1_d76) rfl (flt (by decide : ¬ ((1 : Int32) < (1 : Int32)))).2.1 (by decide) (by decide) kz) ?_
  show Go p e below _ T3 (mkF m 124 #[.val (.ref a), .val (.ref nm), .val (.int fi), .val (.ref ar), .val (.int (1 : Int32)), .val (.double (4602678819172646912 : UInt64)), .second] [])
  refine Go.of (fun _ kz => XS.aloadN X3.here hx rfl (hb hby own_c1_d124) rfl rfl kz) ?_
  show Go p e below _ T3 (mkF m 125 #[.val (.ref a), .val (.ref nm), .val (.int fi), .val (.ref ar), .val (.int (1 : Int32)), .val (.double (4602678819172646912 : UInt64)), .second] [(.ref a)])
  refine Go.of (fun _ kz => XS.aloadN X3.here hx rfl (hb hby own_c1_d125) rfl rfl kz) ?_
  show Go p e below _ T3 (mkF m 126 #[.val (.ref a), .val (.ref nm), .val (.int fi), .val (.ref ar), .val (.int (1 : Int32)), .val (.double (4602678819172646912 : UInt64)), .second] [(.ref nm), (.ref a)])
  refine Go.putf X3 hx hZ hown (hw _ (List.mem_of_getElem? (i := 32) rfl)) Via.refl e3 (F_name.ext E2) (EA.ext E2) (Or.inr ⟨(hw _ (List.mem_of_getElem? (i := 33) rfl)), rfl, hnm⟩) (hw _ (List.mem_of_getElem? (i := 10) rfl)) (ty := (.object "java/lang/String")) (by decide) rfl rfl (hb hby own_c1_d126) fun T4 h4 X4 e4 W4 F4 A4 => ?_
  have sz4 : n0 ≤ h4.size := Nat.le_trans sz2 (Keep.of_wr W4).1
  have hk4 : k2 ≤ h4.size := Nat.le_trans hk2 (Keep.of_wr W4).1
  have kp4 : Keep h0 h4 [a] := kp2.wr W4 (Or.inl (List.mem_of_getElem? (i := 0) rfl))
  have N4 := Fr.snoc X4 (Fr.nil n0) ga
  show Go p e below _ T4 (mkF m 129 #[.val (.ref a), .val (.ref nm), .val (.int fi), .val (.ref ar), .val (.int (1 : Int32)), .val (.double (4602678819172646912 : UInt64)), .second] [])
  refine Go.of (fun _ kz => XS.aloadN X4.here hx rfl (hb hby own_c1_d129) rfl rfl kz) ?_
  show Go p e below _ T4 (mkF m 130 #[.val (.ref a), .val (.ref nm), .val (.int fi), .val (.ref ar), .val (.int (1 : Int32)), .val (.double (4602678819172646912 : UInt64)), .second] [(.ref a)])
  refine Go.of (fun _ kz => XS.iloadN X4.here hx rfl (hb hby own_c1_d130) rfl kz) ?_
  show Go p e below _ T4 (mkF m 131 #[.val (.ref a), .val (.ref nm), .val (.int fi), .val (.ref ar), .val (.int (1 : Int32)), .val (.double (4602678819172646912 : UInt64)), .second] [(.int fi), (.ref a)])
  refine Go.putf X4 hx hZ hown (hw _ (List.mem_of_getElem? (i := 34) rfl)) Via.refl e4 ((F_minimumAge.ext E2).other W4 (Or.inr (slot_ne (Or.inr (hw _ (List.mem_of_getElem? (i := 35) rfl))) (Or.inr (hw _ (List.mem_of_getElem? (i := 33) rfl))) (by decide) (t := .int) (t' := (.object "java/lang/String")) (by decide) (by decide)))) A4 (Or.inr ⟨(hw _ (List.mem_of_getElem? (i := 35) rfl)), rfl, hnm⟩) (hw _ (List.mem_of_getElem? (i := 10) rfl)) (ty := .int) (by decide) rfl rfl (hb hby own_c1_d131) fun T5 h5 X5 e5 W5 F5 A5 => ?_
  have sz5 : n0 ≤ h5.size := Nat.le_trans sz4 (Keep.of_wr W5).1
  have hk5 : k2 ≤ h5.size := Nat.le_trans hk4 (Keep.of_wr W5).1
  have kp5 : Keep h0 h5 [a] := kp4.wr W5 (Or.inl (List.mem_of_getElem? (i := 0) rfl))
  have N5 := Fr.snoc X5 N4 ga
  show Go p e below _ T5 (mkF m 134 #[.val (.ref a), .val (.ref nm), .val (.int fi), .val (.ref ar), .val (.int (1 : Int32)), .val (.double (4602678819172646912 : UInt64)), .second] [])
  refine Go.of (fun _ kz => XS.aloadN X5.here hx rfl (hb hby own_c1_d134) rfl rfl kz) ?_
  show Go p e below _ T5 (mkF m 135 #[.val (.ref a), .val (.ref nm), .val (.int fi), .val (.ref ar), .val (.int (1 : Int32)), .val (.double (4602678819172646912 : UInt64)), .second] [(.ref a)])
  refine Go.of (fun _ kz => XS.aloadN X5.here hx rfl (hb hby own_c1_d135) rfl rfl kz) ?_
  show Go p e below _ T5 (mkF m 136 #[.val (.ref a), .val (.ref nm), .val (.int fi), .val (.ref ar), .val (.int (1 : Int32)), .val (.double (4602678819172646912 : UInt64)), .second] [(.ref ar), (.ref a)])
  refine Go.clone X5 hx hZ hown (hw _ (List.mem_of_getElem? (i := 36) rfl)) (hw _ (List.mem_of_getElem? (i := 37) rfl)) (hw _ (List.mem_of_getElem? (i := 41) rfl)) (hw _ (List.mem_of_getElem? (i := 39) rfl)) (hw _ (List.mem_of_getElem? (i := 40) rfl)) (hw _ (List.mem_of_getElem? (i := 42) rfl)) e5 (((VR.ext E2).other W4 hne).other W5 hne) (((ER.ext E2).wr W4).wr W5) (by rw [hml]; rfl) (hb hby own_c1_d136) (by decide) (W := 1) (cap := 1) (Nat.le_of_eq rfl) (by decide) (by decide) (by decide) (by decide) fun T6 h6 b6 g6 X6 e6 E6 V6 A6 => ?_
  have lt_a_b6 : a < b6 := Nat.lt_of_lt_of_le A5.lt (Nat.le_of_eq g6.symm)
  have lt_ar_b6 : ar < b6 := Nat.lt_of_lt_of_le (((ER.ext E2).wr W4).wr W5).lt (Nat.le_of_eq g6.symm)
  have ge_b6 : n0 ≤ b6 := g6 ▸ sz5
  have hs_b6 : h0.size ≤ b6 := g6 ▸ kp5.1
  have sz6 : n0 ≤ h6.size := Nat.le_trans sz5 E6.1
  have hk6 : k2 ≤ h6.size := Nat.le_trans hk5 E6.1
  have kp6 : Keep h0 h6 [a] := kp5.ext E6
  show Go p e below _ T6 (mkF m 139 #[.val (.ref a), .val (.ref nm), .val (.int fi), .val (.ref ar), .val (.int (1 : Int32)), .val (.double (4602678819172646912 : UInt64)), .second] [(.ref b6), (.ref a)])
  refine Go.castTo X6 hx hZ hown (hw _ (List.mem_of_getElem? (i := 43) rfl)) e6 (Ins.self A6) (hb hby own_c1_d139) fun T7 X7 e7 => ?_
  show Go p e below _ T7 (mkF m 142 #[.val (.ref a), .val (.ref nm), .val (.int fi), .val (.ref ar), .val (.int (1 : Int32)), .val (.double (4602678819172646912 : UInt64)), .second] [(.ref b6), (.ref a)])
  refine Go.putf X7 hx hZ hown (hw _ (List.mem_of_getElem? (i := 45) rfl)) Via.refl e7 ((((F_rates.ext E2).other W4 (Or.inr (slot_ne (Or.inr (hw _ (List.mem_of_getElem? (i := 46) rfl))) (Or.inr (hw _ (List.mem_of_getElem? (i := 33) rfl))) (by decide) (t := (.array .double)) (t' := (.object "java/lang/String")) (by decide) (by decide)))).other W5 (Or.inr (slot_ne (Or.inr (hw _ (List.mem_of_getElem? (i := 46) rfl))) (Or.inr (hw _ (List.mem_of_getElem? (i := 35) rfl))) (by decide) (t := (.array .double)) (t' := .int) (by decide) (by decide)))).ext E6) (A5.ext E6) (Or.inr ⟨(hw _ (List.mem_of_getElem? (i := 46) rfl)), rfl, hnm⟩) (hw _ (List.mem_of_getElem? (i := 10) rfl)) (ty := (.array .double)) (by decide) rfl rfl (hb hby own_c1_d142) fun T8 h8 X8 e8 W8 F8 A8 => ?_
  have sz8 : n0 ≤ h8.size := Nat.le_trans sz6 (Keep.of_wr W8).1
  have hk8 : k2 ≤ h8.size := Nat.le_trans hk6 (Keep.of_wr W8).1
  have kp8 : Keep h0 h8 [a] := kp6.wr W8 (Or.inl (List.mem_of_getElem? (i := 0) rfl))
  have N8 := Fr.snoc X8 N5 ga
  show Go p e below _ T8 (mkF m 145 #[.val (.ref a), .val (.ref nm), .val (.int fi), .val (.ref ar), .val (.int (1 : Int32)), .val (.double (4602678819172646912 : UInt64)), .second] [])
  exact Go.retVW X8 hx hS (by rw [e8]; exact hk8) hlk hret (hb hby own_c1_d145) (by decide) (by decide) (by rw [e8]; exact ⟨rfl, N8, kp8, A8, ((F5.ext E6).other W8 (Or.inr (slot_ne (Or.inr (hw _ (List.mem_of_getElem? (i := 35) rfl))) (Or.inr (hw _ (List.mem_of_getElem? (i := 46) rfl))) (by decide) (t := .int) (t' := (.array .double)) (by decide) (by decide)))), b6, kr, F8, hs_b6, (V6.other W8 (Nat.ne_of_gt lt_a_b6))⟩)
theorem own_c2_d0 : decode prog_6_method_1_code 0 = .ok (.aload_n 0, 1) := by decide +kernel
theorem own_c2_d1 : decode prog_6_method_1_code 1 = .ok (.invokespecial 1, 3) := by decide +kernel
theorem own_c2_d4 : decode prog_6_method_1_code 4 = .ok (.aload_n 1, 1) := by decide +kernel
theorem own_c2_d5 : decode prog_6_method_1_code 5 = .ok (.ldc 7, 2) := by decide +kernel
theorem own_c2_d7 : decode prog_6_method_1_code 7 = .ok (.invokestatic 9, 3) := by decide +kernel
theorem own_c2_d10 : decode prog_6_method_1_code 10 = .ok (.pop, 1) := by decide +kernel
theorem own_c2_d11 : decode prog_6_method_1_code 11 = .ok (.iload_n 2, 1) := by decide +kernel
theorem own_c2_d12 : decode prog_6_method_1_code 12 = .ok (.ifCond .ge 17, 3) := by decide +kernel
theorem own_c2_d29 : decode prog_6_method_1_code 29 = .ok (.aload_n 3, 1) := by decide +kernel
theorem own_c2_d30 : decode prog_6_method_1_code 30 = .ok (.arraylength, 1) := by decide +kernel
theorem own_c2_d31 : decode prog_6_method_1_code 31 = .ok (.ifCond .ne 13, 3) := by decide +kernel
theorem own_c2_d44 : decode prog_6_method_1_code 44 = .ok (.iload_n 2, 1) := by decide +kernel
theorem own_c2_d45 : decode prog_6_method_1_code 45 = .ok (.i2l, 1) := by decide +kernel
theorem own_c2_d46 : decode prog_6_method_1_code 46 = .ok (.aload_n 3, 1) := by decide +kernel
theorem own_c2_d47 : decode prog_6_method_1_code 47 = .ok (.arraylength, 1) := by decide +kernel
theorem own_c2_d48 : decode prog_6_method_1_code 48 = .ok (.i2l, 1) := by decide +kernel
theorem own_c2_d49 : decode prog_6_method_1_code 49 = .ok (.ladd, 1) := by decide +kernel
theorem own_c2_d50 : decode prog_6_method_1_code 50 = .ok (.lconst 1, 1) := by decide +kernel
theorem own_c2_d51 : decode prog_6_method_1_code 51 = .ok (.lsub, 1) := by decide +kernel
theorem own_c2_d52 : decode prog_6_method_1_code 52 = .ok (.ldc2_w 28, 3) := by decide +kernel
theorem own_c2_d55 : decode prog_6_method_1_code 55 = .ok (.lcmp, 1) := by decide +kernel
theorem own_c2_d56 : decode prog_6_method_1_code 56 = .ok (.ifCond .le 13, 3) := by decide +kernel
theorem own_c2_d69 : decode prog_6_method_1_code 69 = .ok (.iconst 0, 1) := by decide +kernel
theorem own_c2_d70 : decode prog_6_method_1_code 70 = .ok (.istore 4, 2) := by decide +kernel
theorem own_c2_d72 : decode prog_6_method_1_code 72 = .ok (.iload 4, 2) := by decide +kernel
theorem own_c2_d74 : decode prog_6_method_1_code 74 = .ok (.aload_n 3, 1) := by decide +kernel
theorem own_c2_d75 : decode prog_6_method_1_code 75 = .ok (.arraylength, 1) := by decide +kernel
theorem own_c2_d76 : decode prog_6_method_1_code 76 = .ok (.if_icmp .ge 48, 3) := by decide +kernel
theorem own_c2_d79 : decode prog_6_method_1_code 79 = .ok (.aload_n 3, 1) := by decide +kernel
theorem own_c2_d80 : decode prog_6_method_1_code 80 = .ok (.iload 4, 2) := by decide +kernel
theorem own_c2_d82 : decode prog_6_method_1_code 82 = .ok (.daload, 1) := by decide +kernel
theorem own_c2_d83 : decode prog_6_method_1_code 83 = .ok (.dstore 5, 2) := by decide +kernel
theorem own_c2_d85 : decode prog_6_method_1_code 85 = .ok (.dload 5, 2) := by decide +kernel
theorem own_c2_d87 : decode prog_6_method_1_code 87 = .ok (.dconst 0, 1) := by decide +kernel
theorem own_c2_d88 : decode prog_6_method_1_code 88 = .ok (.dcmp .l, 1) := by decide +kernel
theorem own_c2_d89 : decode prog_6_method_1_code 89 = .ok (.ifCond .lt 10, 3) := by decide +kernel
theorem own_c2_d92 : decode prog_6_method_1_code 92 = .ok (.dload 5, 2) := by decide +kernel
theorem own_c2_d94 : decode prog_6_method_1_code 94 = .ok (.dconst 1, 1) := by decide +kernel
theorem own_c2_d95 : decode prog_6_method_1_code 95 = .ok (.dcmp .g, 1) := by decide +kernel
theorem own_c2_d96 : decode prog_6_method_1_code 96 = .ok (.ifCond .le 22, 3) := by decide +kernel
theorem own_c2_d118 : decode prog_6_method_1_code 118 = .ok (.iinc 4 1, 3) := by decide +kernel
theorem own_c2_d121 : decode prog_6_method_1_code 121 = .ok (.goto (-49), 3) := by decide +kernel
theorem own_c2_d124 : decode prog_6_method_1_code 124 = .ok (.aload_n 0, 1) := by decide +kernel
theorem own_c2_d125 : decode prog_6_method_1_code 125 = .ok (.aload_n 1, 1) := by decide +kernel
theorem own_c2_d126 : decode prog_6_method_1_code 126 = .ok (.putfield 35, 3) := by decide +kernel
theorem own_c2_d129 : decode prog_6_method_1_code 129 = .ok (.aload_n 0, 1) := by decide +kernel
theorem own_c2_d130 : decode prog_6_method_1_code 130 = .ok (.iload_n 2, 1) := by decide +kernel
theorem own_c2_d131 : decode prog_6_method_1_code 131 = .ok (.putfield 40, 3) := by decide +kernel
theorem own_c2_d134 : decode prog_6_method_1_code 134 = .ok (.aload_n 0, 1) := by decide +kernel
theorem own_c2_d135 : decode prog_6_method_1_code 135 = .ok (.aload_n 3, 1) := by decide +kernel
theorem own_c2_d136 : decode prog_6_method_1_code 136 = .ok (.invokevirtual 44, 3) := by decide +kernel
theorem own_c2_d139 : decode prog_6_method_1_code 139 = .ok (.checkcast 45, 3) := by decide +kernel
theorem own_c2_d142 : decode prog_6_method_1_code 142 = .ok (.putfield 50, 3) := by decide +kernel
theorem own_c2_d145 : decode prog_6_method_1_code 145 = .ok (.return_, 1) := by decide +kernel
abbrev own_rmC2_Q (Z : State) (a nm : Addr) (fi : Int32) (ar : Addr) (kr : ClassId) (n0 : Nat) (h0 : Heap) : Option Value → Heap → List Loc → Prop := fun v h L => v = none ∧ Fr n0 L ∧ Keep h0 h [a] ∧ Exa Z h a "com/example/vestry/vestry/actuarial/MortalityTable" ∧ Fld Z h a "com/example/vestry/vestry/actuarial/MortalityTable" "minimumAge" "I" (.int fi) ∧ ∃ b kb, Fld Z h a "com/example/vestry/vestry/actuarial/MortalityTable" "rates" "[D" (.ref b) ∧ h0.size ≤ b ∧ Arv Z h b kb .double (2 : Int32) [(.double (0 : UInt64)), (.double (4598175219545276416 : UInt64))] (.double 0)
set_option maxRecDepth 65536 in
set_option maxHeartbeats 40000000 in
theorem own_rmC2 (l : Launch) (Z : State) (a0 : Array Value) (hw : ∀ d ∈ tables_1, d.before a0 Z = true) (a nm : Addr) (fi : Int32) (ar : Addr) (kr : ClassId) (n0 : Nat) (h0 : Heap) (Z0 : n0 ≤ h0.size) (ga : n0 ≤ a) (gar : n0 ≤ ar) (hne : ar ≠ a) (hp1 : ¬ fi < 0) (hp2 : ¬ (0 : Int32) < XS.cmpL ((fi.toInt64 + (2 : Int64)) - (1 : Int64)) (2147483647 : Int64)) (EA : Exa Z h0 a "com/example/vestry/vestry/actuarial/MortalityTable") (F_name : Fld Z h0 a "com/example/vestry/vestry/actuarial/MortalityTable" "name" "Ljava/lang/String;" .null) (F_minimumAge : Fld Z h0 a "com/example/vestry/vestry/actuarial/MortalityTable" "minimumAge" "I" (.int 0)) (F_rates : Fld Z h0 a "com/example/vestry/vestry/actuarial/MortalityTable" "rates" "[D" .null) (VR : Arv Z h0 ar kr .double (2 : Int32) [(.double (0 : UInt64)), (.double (4598175219545276416 : UInt64))] (.double 0)) (ER : Exa Z h0 ar "[D") :
    MetFree l (⟨"com/example/vestry/vestry/actuarial/MortalityTable", "<init>", "(Ljava/lang/String;I[D)V"⟩ : MethodName) (head1 [Jvm.Cond.code (⟨"com/example/vestry/vestry/actuarial/MortalityTable", "<init>", "(Ljava/lang/String;I[D)V"⟩ : MethodName) prog_6_method_1_code 7 none] ({ frames := 1, cells := 3, slots := 22, locals := 26 } : Room)) (fun aa U => aa = #[(.ref a), (.ref nm), (.int fi), (.ref ar)] ∧ Z.Warmed39 U.vm ∧ U.heap = h0) (fun _ _ _ _ _ => True) (fun _ U o U' => ∃ v L, o = .returned v ∧ ((own_rmC2_Q Z a nm fi ar kr n0 h0)) v U'.heap L ∧ ReturnedEndW U o U' L ({ frames := 1, cells := 3, slots := 22, locals := 26 } : Room).cells ({ frames := 1, cells := 3, slots := 22, locals := 26 } : Room).slots) := by
  refine goBodyW (y := (⟨"com/example/vestry/vestry/actuarial/MortalityTable", "<init>", "(Ljava/lang/String;I[D)V"⟩ : MethodName)) (Q := (own_rmC2_Q Z a nm fi ar kr n0 h0)) (plainFor_of_name (by first | (simp [plainName, overriddenIn]; done) | decide +kernel)) ?_
  intro p e s m below meth c T0 hx hZ hby hml hown hnm hret hlk X0 e0 hS
  have wS : ∀ d ∈ Bundle.stringAtoms, d.before a0 Z = true := fun d hd => by
    simp only [Bundle.stringAtoms, List.mem_cons, List.not_mem_nil, or_false] at hd
    rcases hd with rfl | rfl | rfl | rfl | rfl | rfl | rfl
    · exact (hw _ (List.mem_of_getElem? (i := 13) rfl))
    · exact (hw _ (List.mem_of_getElem? (i := 14) rfl))
    · exact (hw _ (List.mem_of_getElem? (i := 15) rfl))
    · exact (hw _ (List.mem_of_getElem? (i := 16) rfl))
    · exact (hw _ (List.mem_of_getElem? (i := 17) rfl))
    · exact (hw _ (List.mem_of_getElem? (i := 18) rfl))
    · exact (hw _ (List.mem_of_getElem? (i := 19) rfl))
  have hk : 0 ≤ h0.size := Nat.zero_le _
  have hown : s.vm.findClass "com/example/vestry/vestry/actuarial/MortalityTable" = some m.cls := hown
  refine Go.cast (g' := mkF m 0 #[.val (.ref a), .val (.ref nm), .val (.int fi), .val (.ref ar), .unset, .unset, .unset] []) (by first | (simp [entryFrame, mkF, argsToLocals, Value.category]; done) | rfl) ?_
  show Go p e below _ T0 (mkF m 0 #[.val (.ref a), .val (.ref nm), .val (.int fi), .val (.ref ar), .unset, .unset, .unset] [])
  refine Go.of (fun _ kz => XS.aloadN X0.here hx rfl (hb hby own_c2_d0) rfl rfl kz) ?_
  show Go p e below _ T0 (mkF m 1 #[.val (.ref a), .val (.ref nm), .val (.int fi), .val (.ref ar), .unset, .unset, .unset] [(.ref a)])
  refine Go.initObj X0 hx hZ hown (hw _ (List.mem_of_getElem? (i := 23) rfl)) (hw _ (List.mem_of_getElem? (i := 24) rfl)) (hw _ (List.mem_of_getElem? (i := 25) rfl)) e0 (by rw [hml]; rfl) (hb hby own_c2_d1) (by decide) (W := 0) (Nat.le_of_eq rfl) (by decide) fun T1 X1 e1 => ?_
  show Go p e below _ T1 (mkF m 4 #[.val (.ref a), .val (.ref nm), .val (.int fi), .val (.ref ar), .unset, .unset, .unset] [])
  refine Go.of (fun _ kz => XS.aloadN X1.here hx rfl (hb hby own_c2_d4) rfl rfl kz) ?_
  show Go p e below _ T1 (mkF m 5 #[.val (.ref a), .val (.ref nm), .val (.int fi), .val (.ref ar), .unset, .unset, .unset] [(.ref nm)])
  refine Go.ldcS X1 hx hZ hown (hw _ (List.mem_of_getElem? (i := 26) rfl)) wS e1 hS hk (hb hby own_c2_d5) 16 (by decide) (by decide) (by decide) (by decide) fun b2 T2 h2 k2 X2 e2 E2 hS hk2 hZ hown => ?_
  have sz2 : n0 ≤ h2.size := Nat.le_trans Z0 E2.1
  have kp2 : Keep h0 h2 [a] := (Keep.refl h0 [a]).ext E2
  show Go p e below _ T2 (mkF m 7 #[.val (.ref a), .val (.ref nm), .val (.int fi), .val (.ref ar), .unset, .unset, .unset] [(.ref b2), (.ref nm)])
  refine Go.callSP (W := 0) (y := (⟨"java/util/Objects", "requireNonNull", "(Ljava/lang/Object;Ljava/lang/String;)Ljava/lang/Object;"⟩ : MethodName)) (argsL := [(.ref nm), (.ref b2)]) (rest := []) (r := some (.ref nm)) X2 hx hZ hown (hw _ (List.mem_of_getElem? (i := 27) rfl)) (hw _ (List.mem_of_getElem? (i := 28) rfl)) (hw _ (List.mem_of_getElem? (i := 29) rfl)) (hw _ (List.mem_of_getElem? (i := 30) rfl)) (by decide) (own_rmQ l Z a0 hw nm b2 h2) e2 (by rw [hml]; rfl) (lenOf own_dsc0 rfl) (hb hby own_c2_d7) rfl (Nat.le_of_eq rfl) (by decide) (by decide) (by decide) (by decide) fun T3 X3 e3 => ?_
  show Go p e below _ T3 (mkF m 10 #[.val (.ref a), .val (.ref nm), .val (.int fi), .val (.ref ar), .unset, .unset, .unset] [(.ref nm)])
  refine Go.of (fun _ kz => XS.pop X3.here hx rfl (hb hby own_c2_d10) rfl rfl kz) ?_
  show Go p e below _ T3 (mkF m 11 #[.val (.ref a), .val (.ref nm), .val (.int fi), .val (.ref ar), .unset, .unset, .unset] [])
  refine Go.of (fun _ kz => XS.iloadN X3.here hx rfl (hb hby own_c2_d11) rfl kz) ?_
  show Go p e below _ T3 (mkF m 12 #[.val (.ref a), .val (.ref nm), .val (.int fi), .val (.ref ar), .unset, .unset, .unset] [(.int fi)])
  refine Go.of (fun _ kz => XS.ifYes X3.here hx rfl (pc0 := 12) (pc' := 29) rfl (hb hby own_c2_d12) rfl ((if0 _ _).trans (flt hp1).2.1) (by decide) (by decide) kz) ?_
  show Go p e below _ T3 (mkF m 29 #[.val (.ref a), .val (.ref nm), .val (.int fi), .val (.ref ar), .unset, .unset, .unset] [])
  refine Go.of (fun _ kz => XS.aloadN X3.here hx rfl (hb hby own_c2_d29) rfl rfl kz) ?_
  show Go p e below _ T3 (mkF m 30 #[.val (.ref a), .val (.ref nm), .val (.int fi), .val (.ref ar), .unset, .unset, .unset] [(.ref ar)])
  refine Go.len X3 hx hZ e3 (VR.ext E2) (hb hby own_c2_d30) ?_
  show Go p e below _ T3 (mkF m 31 #[.val (.ref a), .val (.ref nm), .val (.int fi), .val (.ref ar), .unset, .unset, .unset] [(.int (2 : Int32))])
  refine Go.of (fun _ kz => XS.ifYes X3.here hx rfl (pc0 := 31) (pc' := 44) rfl (hb hby own_c2_d31) rfl ((if0 _ _).trans (feq (by decide : ¬ ((2 : Int32) = (0 : Int32)))).2) (by decide) (by decide) kz) ?_
  show Go p e below _ T3 (mkF m 44 #[.val (.ref a), .val (.ref nm), .val (.int fi), .val (.ref ar), .unset, .unset, .unset] [])
  refine Go.of (fun _ kz => XS.iloadN X3.here hx rfl (hb hby own_c2_d44) rfl kz) ?_
  show Go p e below _ T3 (mkF m 45 #[.val (.ref a), .val (.ref nm), .val (.int fi), .val (.ref ar), .unset, .unset, .unset] [(.int fi)])
  refine Go.of (fun _ kz => XS.i2l X3.here hx rfl (hb hby own_c2_d45) rfl kz) ?_
  show Go p e below _ T3 (mkF m 46 #[.val (.ref a), .val (.ref nm), .val (.int fi), .val (.ref ar), .unset, .unset, .unset] [(.long (fi.toInt64))])
  refine Go.of (fun _ kz => XS.aloadN X3.here hx rfl (hb hby own_c2_d46) rfl rfl kz) ?_
  show Go p e below _ T3 (mkF m 47 #[.val (.ref a), .val (.ref nm), .val (.int fi), .val (.ref ar), .unset, .unset, .unset] [(.ref ar), (.long (fi.toInt64))])
  refine Go.len X3 hx hZ e3 (VR.ext E2) (hb hby own_c2_d47) ?_
  show Go p e below _ T3 (mkF m 48 #[.val (.ref a), .val (.ref nm), .val (.int fi), .val (.ref ar), .unset, .unset, .unset] [(.int (2 : Int32)), (.long (fi.toInt64))])
  refine Go.of (fun _ kz => XS.i2l X3.here hx rfl (hb hby own_c2_d48) rfl kz) ?_
  show Go p e below _ T3 (mkF m 49 #[.val (.ref a), .val (.ref nm), .val (.int fi), .val (.ref ar), .unset, .unset, .unset] [(.long (2 : Int64)), (.long (fi.toInt64))])
  refine Go.of (fun _ kz => XS.ladd X3.here hx rfl (hb hby own_c2_d49) rfl kz) ?_
  show Go p e below _ T3 (mkF m 50 #[.val (.ref a), .val (.ref nm), .val (.int fi), .val (.ref ar), .unset, .unset, .unset] [(.long ((fi.toInt64) + (2 : Int64)))])
  refine Go.of (fun _ kz => XS.lconst X3.here hx rfl (hb hby own_c2_d50) kz) ?_
  show Go p e below _ T3 (mkF m 51 #[.val (.ref a), .val (.ref nm), .val (.int fi), .val (.ref ar), .unset, .unset, .unset] [(.long (1 : Int64)), (.long ((fi.toInt64) + (2 : Int64)))])
  refine Go.of (fun _ kz => XS.lsub X3.here hx rfl (hb hby own_c2_d51) rfl kz) ?_
  show Go p e below _ T3 (mkF m 52 #[.val (.ref a), .val (.ref nm), .val (.int fi), .val (.ref ar), .unset, .unset, .unset] [(.long (((fi.toInt64) + (2 : Int64)) - (1 : Int64)))])
  refine Go.of (X3.ldc2Long hx hown (mvT hZ (hw _ (List.mem_of_getElem? (i := 31) rfl))) (g := (mkF m 52 #[.val (.ref a), .val (.ref nm), .val (.int fi), .val (.ref ar), .unset, .unset, .unset] [(.long (((fi.toInt64) + (2 : Int64)) - (1 : Int64)))])) rfl (hb hby own_c2_d52)) ?_
  show Go p e below _ T3 (mkF m 55 #[.val (.ref a), .val (.ref nm), .val (.int fi), .val (.ref ar), .unset, .unset, .unset] [(.long (2147483647 : Int64)), (.long (((fi.toInt64) + (2 : Int64)) - (1 : Int64)))])
  refine Go.of (fun _ kz => XS.lcmp X3.here hx rfl (hb hby own_c2_d55) rfl kz) ?_
  show Go p e below _ T3 (mkF m 56 #[.val (.ref a), .val (.ref nm), .val (.int fi), .val (.ref ar), .unset, .unset, .unset] [(.int (XS.cmpL (((fi.toInt64) + (2 : Int64)) - (1 : Int64)) (2147483647 : Int64)))])
  refine Go.of (fun _ kz => XS.ifYes X3.here hx rfl (pc0 := 56) (pc' := 69) rfl (hb hby own_c2_d56) rfl ((if0 _ _).trans (flt hp2).2.2.2) (by decide) (by decide) kz) ?_
  show Go p e below _ T3 (mkF m 69 #[.val (.ref a), .val (.ref nm), .val (.int fi), .val (.ref ar), .unset, .unset, .unset] [])
  refine Go.of (fun _ kz => XS.iconst X3.here hx rfl (hb hby own_c2_d69) kz) ?_
  show Go p e below _ T3 (mkF m 70 #[.val (.ref a), .val (.ref nm), .val (.int fi), .val (.ref ar), .unset, .unset, .unset] [(.int (0 : Int32))])
  refine Go.of (fun _ kz => XS.istore X3.here hx rfl (hb hby own_c2_d70) rfl (l' := #[.val (.ref a), .val (.ref nm), .val (.int fi), .val (.ref ar), .val (.int (0 : Int32)), .unset, .unset]) rfl kz) ?_
  show Go p e below _ T3 (mkF m 72 #[.val (.ref a), .val (.ref nm), .val (.int fi), .val (.ref ar), .val (.int (0 : Int32)), .unset, .unset] [])
  refine Go.of (fun _ kz => XS.iload X3.here hx rfl (hb hby own_c2_d72) rfl kz) ?_
  show Go p e below _ T3 (mkF m 74 #[.val (.ref a), .val (.ref nm), .val (.int fi), .val (.ref ar), .val (.int (0 : Int32)), .unset, .unset] [(.int (0 : Int32))])
  refine Go.of (fun _ kz => XS.aloadN X3.here hx rfl (hb hby own_c2_d74) rfl rfl kz) ?_
  show Go p e below _ T3 (mkF m 75 #[.val (.ref a), .val (.ref nm), .val (.int fi), .val (.ref ar), .val (.int (0 : Int32)), .unset, .unset] [(.ref ar), (.int (0 : Int32))])
  refine Go.len X3 hx hZ e3 (VR.ext E2) (hb hby own_c2_d75) ?_
  show Go p e below _ T3 (mkF m 76 #[.val (.ref a), .val (.ref nm), .val (.int fi), .val (.ref ar), .val (.int (0 : Int32)), .unset, .unset] [(.int (2 : Int32)), (.int (0 : Int32))])
  refine Go.of (fun _ kz => XS.icmpNo X3.here hx rfl (hb hby own_c2_d76) rfl (tlt (by decide : (0 : Int32) < (2 : Int32))).2.1 kz) ?_
  show Go p e below _ T3 (mkF m 79 #[.val (.ref a), .val (.ref nm), .val (.int fi), .val (.ref ar), .val (.int (0 : Int32)), .unset, .unset] [])
  refine Go.of (fun _ kz => XS.aloadN X3.here hx rfl (hb hby own_c2_d79) rfl rfl kz) ?_
  show Go p e below _ T3 (mkF m 80 #[.val (.ref a), .val (.ref nm), .val (.int fi), .val (.ref ar), .val (.int (0 : Int32)), .unset, .unset] [(.ref ar)])
  refine Go.of (fun _ kz => XS.iload X3.here hx rfl (hb hby own_c2_d80) rfl kz) ?_
  show Go p e below _ T3 (mkF m 82 #[.val (.ref a), .val (.ref nm), .val (.int fi), .val (.ref ar), .val (.int (0 : Int32)), .unset, .unset] [(.int (0 : Int32)), (.ref ar)])
  refine Go.daload X3 hx hZ e3 (VR.ext E2) ⟨by decide, by decide⟩ (v := (.double (0 : UInt64))) rfl (hb hby own_c2_d82) ?_
  show Go p e below _ T3 (mkF m 83 #[.val (.ref a), .val (.ref nm), .val (.int fi), .val (.ref ar), .val (.int (0 : Int32)), .unset, .unset] [(.double (0 : UInt64))])
  refine Go.of (fun _ kz => XS.dstore X3.here hx rfl (hb hby own_c2_d83) rfl (l' := #[.val (.ref a), .val (.ref nm), .val (.int fi), .val (.ref ar), .val (.int (0 : Int32)), .val (.double (0 : UInt64)), .second]) rfl kz) ?_
  show Go p e below _ T3 (mkF m 85 #[.val (.ref a), .val (.ref nm), .val (.int fi), .val (.ref ar), .val (.int (0 : Int32)), .val (.double (0 : UInt64)), .second] [])
  refine Go.of (fun _ kz => XS.dload X3.here hx rfl (hb hby own_c2_d85) rfl kz) ?_
  show Go p e below _ T3 (mkF m 87 #[.val (.ref a), .val (.ref nm), .val (.int fi), .val (.ref ar), .val (.int (0 : Int32)), .val (.double (0 : UInt64)), .second] [(.double (0 : UInt64))])
  refine Go.of (fun _ kz => XS.dconst0 X3.here hx rfl (hb hby own_c2_d87) (v := 0) (by decide +kernel) kz) ?_
  show Go p e below _ T3 (mkF m 88 #[.val (.ref a), .val (.ref nm), .val (.int fi), .val (.ref ar), .val (.int (0 : Int32)), .val (.double (0 : UInt64)), .second] [(.double (0 : UInt64)), (.double (0 : UInt64))])
  refine Go.of (fun _ kz => XS.dcmpS X3.here hx rfl (hb hby own_c2_d88) rfl rfl kz) ?_
  show Go p e below _ T3 (mkF m 89 #[.val (.ref a), .val (.ref nm), .val (.int fi), .val (.ref ar), .val (.int (0 : Int32)), .val (.double (0 : UInt64)), .second] [(.int (cmpValue (FP.dcmp (0 : UInt64) (0 : UInt64)) .l))])
  refine Go.of (fun _ kz => XS.ifNo X3.here hx rfl (hb hby own_c2_d89) rfl ((if0 _ _).trans (flt (by decide +kernel : ¬ (cmpValue (FP.dcmp (0 : UInt64) (0 : UInt64)) .l) < (0 : Int32))).1) kz) ?_
  show Go p e below _ T3 (mkF m 92 #[.val (.ref a), .val (.ref nm), .val (.int fi), .val (.ref ar), .val (.int (0 : Int32)), .val (.double (0 : UInt64)), .second] [])
  refine Go.of (fun _ kz => XS.dload X3.here hx rfl (hb hby own_c2_d92) rfl kz) ?_
  show Go p e below _ T3 (mkF m 94 #[.val (.ref a), .val (.ref nm), .val (.int fi), .val (.ref ar), .val (.int (0 : Int32)), .val (.double (0 : UInt64)), .second] [(.double (0 : UInt64))])
  refine Go.of (fun _ kz => XS.dconst1 X3.here hx rfl (hb hby own_c2_d94) (v := 4607182418800017408) (by decide +kernel) kz) ?_
  show Go p e below _ T3 (mkF m 95 #[.val (.ref a), .val (.ref nm), .val (.int fi), .val (.ref ar), .val (.int (0 : Int32)), .val (.double (0 : UInt64)), .second] [(.double (4607182418800017408 : UInt64)), (.double (0 : UInt64))])
  refine Go.of (fun _ kz => XS.dcmpS X3.here hx rfl (hb hby own_c2_d95) rfl rfl kz) ?_
  show Go p e below _ T3 (mkF m 96 #[.val (.ref a), .val (.ref nm), .val (.int fi), .val (.ref ar), .val (.int (0 : Int32)), .val (.double (0 : UInt64)), .second] [(.int (cmpValue (FP.dcmp (0 : UInt64) (4607182418800017408 : UInt64)) .g))])
  refine Go.of (fun _ kz => XS.ifYes X3.here hx rfl (pc0 := 96) (pc' := 118) rfl (hb hby own_c2_d96) rfl ((if0 _ _).trans (flt (by decide +kernel : ¬ (0 : Int32) < (cmpValue (FP.dcmp (0 : UInt64) (4607182418800017408 : UInt64)) .g))).2.2.2) (by decide) (by decide) kz) ?_
  show Go p e below _ T3 (mkF m 118 #[.val (.ref a), .val (.ref nm), .val (.int fi), .val (.ref ar), .val (.int (0 : Int32)), .val (.double (0 : UInt64)), .second] [])
  refine Go.of (fun _ kz => XS.iinc X3.here hx rfl (hb hby own_c2_d118) rfl (l' := #[.val (.ref a), .val (.ref nm), .val (.int fi), .val (.ref ar), .val (.int (1 : Int32)), .val (.double (0 : UInt64)), .second]) rfl kz) ?_
  show Go p e below _ T3 (mkF m 121 #[.val (.ref a), .val (.ref nm), .val (.int fi), .val (.ref ar), .val (.int (1 : Int32)), .val (.double (0 : UInt64)), .second] [])
  refine Go.of (fun _ kz => XS.goto X3.here hx rfl (pc0 := 121) (pc' := 72) rfl (hb hby own_c2_d121) (by decide) (by decide) kz) ?_
  show Go p e below _ T3 (mkF m 72 #[.val (.ref a), .val (.ref nm), .val (.int fi), .val (.ref ar), .val (.int (1 : Int32)), .val (.double (0 : UInt64)), .second] [])
  refine Go.of (fun _ kz => XS.iload X3.here hx rfl (hb hby own_c2_d72) rfl kz) ?_
  show Go p e below _ T3 (mkF m 74 #[.val (.ref a), .val (.ref nm), .val (.int fi), .val (.ref ar), .val (.int (1 : Int32)), .val (.double (0 : UInt64)), .second] [(.int (1 : Int32))])
  refine Go.of (fun _ kz => XS.aloadN X3.here hx rfl (hb hby own_c2_d74) rfl rfl kz) ?_
  show Go p e below _ T3 (mkF m 75 #[.val (.ref a), .val (.ref nm), .val (.int fi), .val (.ref ar), .val (.int (1 : Int32)), .val (.double (0 : UInt64)), .second] [(.ref ar), (.int (1 : Int32))])
  refine Go.len X3 hx hZ e3 (VR.ext E2) (hb hby own_c2_d75) ?_
  show Go p e below _ T3 (mkF m 76 #[.val (.ref a), .val (.ref nm), .val (.int fi), .val (.ref ar), .val (.int (1 : Int32)), .val (.double (0 : UInt64)), .second] [(.int (2 : Int32)), (.int (1 : Int32))])
  refine Go.of (fun _ kz => XS.icmpNo X3.here hx rfl (hb hby own_c2_d76) rfl (tlt (by decide : (1 : Int32) < (2 : Int32))).2.1 kz) ?_
  show Go p e below _ T3 (mkF m 79 #[.val (.ref a), .val (.ref nm), .val (.int fi), .val (.ref ar), .val (.int (1 : Int32)), .val (.double (0 : UInt64)), .second] [])
  refine Go.of (fun _ kz => XS.aloadN X3.here hx rfl (hb hby own_c2_d79) rfl rfl kz) ?_
  show Go p e below _ T3 (mkF m 80 #[.val (.ref a), .val (.ref nm), .val (.int fi), .val (.ref ar), .val (.int (1 : Int32)), .val (.double (0 : UInt64)), .second] [(.ref ar)])
  refine Go.of (fun _ kz => XS.iload X3.here hx rfl (hb hby own_c2_d80) rfl kz) ?_
  show Go p e below _ T3 (mkF m 82 #[.val (.ref a), .val (.ref nm), .val (.int fi), .val (.ref ar), .val (.int (1 : Int32)), .val (.double (0 : UInt64)), .second] [(.int (1 : Int32)), (.ref ar)])
  refine Go.daload X3 hx hZ e3 (VR.ext E2) ⟨by decide, by decide⟩ (v := (.double (4598175219545276416 : UInt64))) rfl (hb hby own_c2_d82) ?_
  show Go p e below _ T3 (mkF m 83 #[.val (.ref a), .val (.ref nm), .val (.int fi), .val (.ref ar), .val (.int (1 : Int32)), .val (.double (0 : UInt64)), .second] [(.double (4598175219545276416 : UInt64))])
  refine Go.of (fun _ kz => XS.dstore X3.here hx rfl (hb hby own_c2_d83) rfl (l' := #[.val (.ref a), .val (.ref nm), .val (.int fi), .val (.ref ar), .val (.int (1 : Int32)), .val (.double (4598175219545276416 : UInt64)), .second]) rfl kz) ?_
  show Go p e below _ T3 (mkF m 85 #[.val (.ref a), .val (.ref nm), .val (.int fi), .val (.ref ar), .val (.int (1 : Int32)), .val (.double (4598175219545276416 : UInt64)), .second] [])
  refine Go.of (fun _ kz => XS.dload X3.here hx rfl (hb hby own_c2_d85) rfl kz) ?_
  show Go p e below _ T3 (mkF m 87 #[.val (.ref a), .val (.ref nm), .val (.int fi), .val (.ref ar), .val (.int (1 : Int32)), .val (.double (4598175219545276416 : UInt64)), .second] [(.double (4598175219545276416 : UInt64))])
  refine Go.of (fun _ kz => XS.dconst0 X3.here hx rfl (hb hby own_c2_d87) (v := 0) (by decide +kernel) kz) ?_
  show Go p e below _ T3 (mkF m 88 #[.val (.ref a), .val (.ref nm), .val (.int fi), .val (.ref ar), .val (.int (1 : Int32)), .val (.double (4598175219545276416 : UInt64)), .second] [(.double (0 : UInt64)), (.double (4598175219545276416 : UInt64))])
  refine Go.of (fun _ kz => XS.dcmpS X3.here hx rfl (hb hby own_c2_d88) rfl rfl kz) ?_
  show Go p e below _ T3 (mkF m 89 #[.val (.ref a), .val (.ref nm), .val (.int fi), .val (.ref ar), .val (.int (1 : Int32)), .val (.double (4598175219545276416 : UInt64)), .second] [(.int (cmpValue (FP.dcmp (4598175219545276416 : UInt64) (0 : UInt64)) .l))])
  refine Go.of (fun _ kz => XS.ifNo X3.here hx rfl (hb hby own_c2_d89) rfl ((if0 _ _).trans (flt (by decide +kernel : ¬ (cmpValue (FP.dcmp (4598175219545276416 : UInt64) (0 : UInt64)) .l) < (0 : Int32))).1) kz) ?_
  show Go p e below _ T3 (mkF m 92 #[.val (.ref a), .val (.ref nm), .val (.int fi), .val (.ref ar), .val (.int (1 : Int32)), .val (.double (4598175219545276416 : UInt64)), .second] [])
  refine Go.of (fun _ kz => XS.dload X3.here hx rfl (hb hby own_c2_d92) rfl kz) ?_
  show Go p e below _ T3 (mkF m 94 #[.val (.ref a), .val (.ref nm), .val (.int fi), .val (.ref ar), .val (.int (1 : Int32)), .val (.double (4598175219545276416 : UInt64)), .second] [(.double (4598175219545276416 : UInt64))])
  refine Go.of (fun _ kz => XS.dconst1 X3.here hx rfl (hb hby own_c2_d94) (v := 4607182418800017408) (by decide +kernel) kz) ?_
  show Go p e below _ T3 (mkF m 95 #[.val (.ref a), .val (.ref nm), .val (.int fi), .val (.ref ar), .val (.int (1 : Int32)), .val (.double (4598175219545276416 : UInt64)), .second] [(.double (4607182418800017408 : UInt64)), (.double (4598175219545276416 : UInt64))])
  refine Go.of (fun _ kz => XS.dcmpS X3.here hx rfl (hb hby own_c2_d95) rfl rfl kz) ?_
  show Go p e below _ T3 (mkF m 96 #[.val (.ref a), .val (.ref nm), .val (.int fi), .val (.ref ar), .val (.int (1 : Int32)), .val (.double (4598175219545276416 : UInt64)), .second] [(.int (cmpValue (FP.dcmp (4598175219545276416 : UInt64) (4607182418800017408 : UInt64)) .g))])
  refine Go.of (fun _ kz => XS.ifYes X3.here hx rfl (pc0 := 96) (pc' := 118) rfl (hb hby own_c2_d96) rfl ((if0 _ _).trans (flt (by decide +kernel : ¬ (0 : Int32) < (cmpValue (FP.dcmp (4598175219545276416 : UInt64) (4607182418800017408 : UInt64)) .g))).2.2.2) (by decide) (by decide) kz) ?_
  show Go p e below _ T3 (mkF m 118 #[.val (.ref a), .val (.ref nm), .val (.int fi), .val (.ref ar), .val (.int (1 : Int32)), .val (.double (4598175219545276416 : UInt64)), .second] [])
  refine Go.of (fun _ kz => XS.iinc X3.here hx rfl (hb hby own_c2_d118) rfl (l' := #[.val (.ref a), .val (.ref nm), .val (.int fi), .val (.ref ar), .val (.int (2 : Int32)), .val (.double (4598175219545276416 : UInt64)), .second]) rfl kz) ?_
  show Go p e below _ T3 (mkF m 121 #[.val (.ref a), .val (.ref nm), .val (.int fi), .val (.ref ar), .val (.int (2 : Int32)), .val (.double (4598175219545276416 : UInt64)), .second] [])
  refine Go.of (fun _ kz => XS.goto X3.here hx rfl (pc0 := 121) (pc' := 72) rfl (hb hby own_c2_d121) (by decide) (by decide) kz) ?_
  show Go p e below _ T3 (mkF m 72 #[.val (.ref a), .val (.ref nm), .val (.int fi), .val (.ref ar), .val (.int (2 : Int32)), .val (.double (4598175219545276416 : UInt64)), .second] [])
  refine Go.of (fun _ kz => XS.iload X3.here hx rfl (hb hby own_c2_d72) rfl kz) ?_
  show Go p e below _ T3 (mkF m 74 #[.val (.ref a), .val (.ref nm), .val (.int fi), .val (.ref ar), .val (.int (2 : Int32)), .val (.double (4598175219545276416 : UInt64)), .second] [(.int (2 : Int32))])
  refine Go.of (fun _ kz => XS.aloadN X3.here hx rfl (hb hby own_c2_d74) rfl rfl kz) ?_
  show Go p e below _ T3 (mkF m 75 #[.val (.ref a), .val (.ref nm), .val (.int fi), .val (.ref ar), .val (.int (2 : Int32)), .val (.double (4598175219545276416 : UInt64)), .second] [(.ref ar), (.int (2 : Int32))])
  refine Go.len X3 hx hZ e3 (VR.ext E2) (hb hby own_c2_d75) ?_
  show Go p e below _ T3 (mkF m 76 #[.val (.ref a), .val (.ref nm), .val (.int fi), .val (.ref ar), .val (.int (2 : Int32)), .val (.double (4598175219545276416 : UInt64)), .second] [(.int (2 : Int32)), (.int (2 : Int32))])
  refine Go.of (fun _ kz => XS.icmpYes X3.here hx rfl (pc0 := 76) (pc' := 124) rfl (hb hby own_c2_d76) rfl (flt (by decide : ¬ ((2 : Int32) < (2 : Int32)))).2.1 (by decide) (by decide) kz) ?_
  show Go p e below _ T3 (mkF m 124 #[.val (.ref a), .val (.ref nm), .val (.int fi), .val (.ref ar), .val (.int (2 : Int32)), .val (.double (4598175219545276416 : UInt64)), .second] [])
  refine Go.of (fun _ kz => XS.aloadN X3.here hx rfl (hb hby own_c2_d124) rfl rfl kz) ?_
  show Go p e below _ T3 (mkF m 125 #[.val (.ref a), .val (.ref nm), .val (.int fi), .val (.ref ar), .val (.int (2 : Int32)), .val (.double (4598175219545276416 : UInt64)), .second] [(.ref a)])
  refine Go.of (fun _ kz => XS.aloadN X3.here hx rfl (hb hby own_c2_d125) rfl rfl kz) ?_
  show Go p e below _ T3 (mkF m 126 #[.val (.ref a), .val (.ref nm), .val (.int fi), .val (.ref ar), .val (.int (2 : Int32)), .val (.double (4598175219545276416 : UInt64)), .second] [(.ref nm), (.ref a)])
  refine Go.putf X3 hx hZ hown (hw _ (List.mem_of_getElem? (i := 32) rfl)) Via.refl e3 (F_name.ext E2) (EA.ext E2) (Or.inr ⟨(hw _ (List.mem_of_getElem? (i := 33) rfl)), rfl, hnm⟩) (hw _ (List.mem_of_getElem? (i := 10) rfl)) (ty := (.object "java/lang/String")) (by decide) rfl rfl (hb hby own_c2_d126) fun T4 h4 X4 e4 W4 F4 A4 => ?_
  have sz4 : n0 ≤ h4.size := Nat.le_trans sz2 (Keep.of_wr W4).1
  have hk4 : k2 ≤ h4.size := Nat.le_trans hk2 (Keep.of_wr W4).1
  have kp4 : Keep h0 h4 [a] := kp2.wr W4 (Or.inl (List.mem_of_getElem? (i := 0) rfl))
  have N4 := Fr.snoc X4 (Fr.nil n0) ga
  show Go p e below _ T4 (mkF m 129 #[.val (.ref a), .val (.ref nm), .val (.int fi), .val (.ref ar), .val (.int (2 : Int32)), .val (.double (4598175219545276416 : UInt64)), .second] [])
  refine Go.of (fun _ kz => XS.aloadN X4.here hx rfl (hb hby own_c2_d129) rfl rfl kz) ?_
  show Go p e below _ T4 (mkF m 130 #[.val (.ref a), .val (.ref nm), .val (.int fi), .val (.ref ar), .val (.int (2 : Int32)), .val (.double (4598175219545276416 : UInt64)), .second] [(.ref a)])
  refine Go.of (fun _ kz => XS.iloadN X4.here hx rfl (hb hby own_c2_d130) rfl kz) ?_
  show Go p e below _ T4 (mkF m 131 #[.val (.ref a), .val (.ref nm), .val (.int fi), .val (.ref ar), .val (.int (2 : Int32)), .val (.double (4598175219545276416 : UInt64)), .second] [(.int fi), (.ref a)])
  refine Go.putf X4 hx hZ hown (hw _ (List.mem_of_getElem? (i := 34) rfl)) Via.refl e4 ((F_minimumAge.ext E2).other W4 (Or.inr (slot_ne (Or.inr (hw _ (List.mem_of_getElem? (i := 35) rfl))) (Or.inr (hw _ (List.mem_of_getElem? (i := 33) rfl))) (by decide) (t := .int) (t' := (.object "java/lang/String")) (by decide) (by decide)))) A4 (Or.inr ⟨(hw _ (List.mem_of_getElem? (i := 35) rfl)), rfl, hnm⟩) (hw _ (List.mem_of_getElem? (i := 10) rfl)) (ty := .int) (by decide) rfl rfl (hb hby own_c2_d131) fun T5 h5 X5 e5 W5 F5 A5 => ?_
  have sz5 : n0 ≤ h5.size := Nat.le_trans sz4 (Keep.of_wr W5).1
  have hk5 : k2 ≤ h5.size := Nat.le_trans hk4 (Keep.of_wr W5).1
  have kp5 : Keep h0 h5 [a] := kp4.wr W5 (Or.inl (List.mem_of_getElem? (i := 0) rfl))
  have N5 := Fr.snoc X5 N4 ga
  show Go p e below _ T5 (mkF m 134 #[.val (.ref a), .val (.ref nm), .val (.int fi), .val (.ref ar), .val (.int (2 : Int32)), .val (.double (4598175219545276416 : UInt64)), .second] [])
  refine Go.of (fun _ kz => XS.aloadN X5.here hx rfl (hb hby own_c2_d134) rfl rfl kz) ?_
  show Go p e below _ T5 (mkF m 135 #[.val (.ref a), .val (.ref nm), .val (.int fi), .val (.ref ar), .val (.int (2 : Int32)), .val (.double (4598175219545276416 : UInt64)), .second] [(.ref a)])
  refine Go.of (fun _ kz => XS.aloadN X5.here hx rfl (hb hby own_c2_d135) rfl rfl kz) ?_
  show Go p e below _ T5 (mkF m 136 #[.val (.ref a), .val (.ref nm), .val (.int fi), .val (.ref ar), .val (.int (2 : Int32)), .val (.double (4598175219545276416 : UInt64)), .second] [(.ref ar), (.ref a)])
  refine Go.clone X5 hx hZ hown (hw _ (List.mem_of_getElem? (i := 36) rfl)) (hw _ (List.mem_of_getElem? (i := 37) rfl)) (hw _ (List.mem_of_getElem? (i := 41) rfl)) (hw _ (List.mem_of_getElem? (i := 39) rfl)) (hw _ (List.mem_of_getElem? (i := 40) rfl)) (hw _ (List.mem_of_getElem? (i := 42) rfl)) e5 (((VR.ext E2).other W4 hne).other W5 hne) (((ER.ext E2).wr W4).wr W5) (by rw [hml]; rfl) (hb hby own_c2_d136) (by decide) (W := 1) (cap := 2) (Nat.le_of_eq rfl) (by decide) (by decide) (by decide) (by decide) fun T6 h6 b6 g6 X6 e6 E6 V6 A6 => ?_
  have lt_a_b6 : a < b6 := Nat.lt_of_lt_of_le A5.lt (Nat.le_of_eq g6.symm)
  have lt_ar_b6 : ar < b6 := Nat.lt_of_lt_of_le (((ER.ext E2).wr W4).wr W5).lt (Nat.le_of_eq g6.symm)
  have ge_b6 : n0 ≤ b6 := g6 ▸ sz5
  have hs_b6 : h0.size ≤ b6 := g6 ▸ kp5.1
  have sz6 : n0 ≤ h6.size := Nat.le_trans sz5 E6.1
  have hk6 : k2 ≤ h6.size := Nat.le_trans hk5 E6.1
  have kp6 : Keep h0 h6 [a] := kp5.ext E6
  show Go p e below _ T6 (mkF m 139 #[.val (.ref a), .val (.ref nm), .val (.int fi), .val (.ref ar), .val (.int (2 : Int32)), .val (.double (4598175219545276416 : UInt64)), .second] [(.ref b6), (.ref a)])
  refine Go.castTo X6 hx hZ hown (hw _ (List.mem_of_getElem? (i := 43) rfl)) e6 (Ins.self A6) (hb hby own_c2_d139) fun T7 X7 e7 => ?_
  show Go p e below _ T7 (mkF m 142 #[.val (.ref a), .val (.ref nm), .val (.int fi), .val (.ref ar), .val (.int (2 : Int32)), .val (.double (4598175219545276416 : UInt64)), .second] [(.ref b6), (.ref a)])
  refine Go.putf X7 hx hZ hown (hw _ (List.mem_of_getElem? (i := 45) rfl)) Via.refl e7 ((((F_rates.ext E2).other W4 (Or.inr (slot_ne (Or.inr (hw _ (List.mem_of_getElem? (i := 46) rfl))) (Or.inr (hw _ (List.mem_of_getElem? (i := 33) rfl))) (by decide) (t := (.array .double)) (t' := (.object "java/lang/String")) (by decide) (by decide)))).other W5 (Or.inr (slot_ne (Or.inr (hw _ (List.mem_of_getElem? (i := 46) rfl))) (Or.inr (hw _ (List.mem_of_getElem? (i := 35) rfl))) (by decide) (t := (.array .double)) (t' := .int) (by decide) (by decide)))).ext E6) (A5.ext E6) (Or.inr ⟨(hw _ (List.mem_of_getElem? (i := 46) rfl)), rfl, hnm⟩) (hw _ (List.mem_of_getElem? (i := 10) rfl)) (ty := (.array .double)) (by decide) rfl rfl (hb hby own_c2_d142) fun T8 h8 X8 e8 W8 F8 A8 => ?_
  have sz8 : n0 ≤ h8.size := Nat.le_trans sz6 (Keep.of_wr W8).1
  have hk8 : k2 ≤ h8.size := Nat.le_trans hk6 (Keep.of_wr W8).1
  have kp8 : Keep h0 h8 [a] := kp6.wr W8 (Or.inl (List.mem_of_getElem? (i := 0) rfl))
  have N8 := Fr.snoc X8 N5 ga
  show Go p e below _ T8 (mkF m 145 #[.val (.ref a), .val (.ref nm), .val (.int fi), .val (.ref ar), .val (.int (2 : Int32)), .val (.double (4598175219545276416 : UInt64)), .second] [])
  exact Go.retVW X8 hx hS (by rw [e8]; exact hk8) hlk hret (hb hby own_c2_d145) (by decide) (by decide) (by rw [e8]; exact ⟨rfl, N8, kp8, A8, ((F5.ext E6).other W8 (Or.inr (slot_ne (Or.inr (hw _ (List.mem_of_getElem? (i := 35) rfl))) (Or.inr (hw _ (List.mem_of_getElem? (i := 46) rfl))) (by decide) (t := .int) (t' := (.array .double)) (by decide) (by decide)))), b6, kr, F8, hs_b6, (V6.other W8 (Nat.ne_of_gt lt_a_b6))⟩)
theorem own_c3_d0 : decode prog_6_method_1_code 0 = .ok (.aload_n 0, 1) := by decide +kernel
theorem own_c3_d1 : decode prog_6_method_1_code 1 = .ok (.invokespecial 1, 3) := by decide +kernel
theorem own_c3_d4 : decode prog_6_method_1_code 4 = .ok (.aload_n 1, 1) := by decide +kernel
theorem own_c3_d5 : decode prog_6_method_1_code 5 = .ok (.ldc 7, 2) := by decide +kernel
theorem own_c3_d7 : decode prog_6_method_1_code 7 = .ok (.invokestatic 9, 3) := by decide +kernel
theorem own_c3_d10 : decode prog_6_method_1_code 10 = .ok (.pop, 1) := by decide +kernel
theorem own_c3_d11 : decode prog_6_method_1_code 11 = .ok (.iload_n 2, 1) := by decide +kernel
theorem own_c3_d12 : decode prog_6_method_1_code 12 = .ok (.ifCond .ge 17, 3) := by decide +kernel
theorem own_c3_d29 : decode prog_6_method_1_code 29 = .ok (.aload_n 3, 1) := by decide +kernel
theorem own_c3_d30 : decode prog_6_method_1_code 30 = .ok (.arraylength, 1) := by decide +kernel
theorem own_c3_d31 : decode prog_6_method_1_code 31 = .ok (.ifCond .ne 13, 3) := by decide +kernel
theorem own_c3_d44 : decode prog_6_method_1_code 44 = .ok (.iload_n 2, 1) := by decide +kernel
theorem own_c3_d45 : decode prog_6_method_1_code 45 = .ok (.i2l, 1) := by decide +kernel
theorem own_c3_d46 : decode prog_6_method_1_code 46 = .ok (.aload_n 3, 1) := by decide +kernel
theorem own_c3_d47 : decode prog_6_method_1_code 47 = .ok (.arraylength, 1) := by decide +kernel
theorem own_c3_d48 : decode prog_6_method_1_code 48 = .ok (.i2l, 1) := by decide +kernel
theorem own_c3_d49 : decode prog_6_method_1_code 49 = .ok (.ladd, 1) := by decide +kernel
theorem own_c3_d50 : decode prog_6_method_1_code 50 = .ok (.lconst 1, 1) := by decide +kernel
theorem own_c3_d51 : decode prog_6_method_1_code 51 = .ok (.lsub, 1) := by decide +kernel
theorem own_c3_d52 : decode prog_6_method_1_code 52 = .ok (.ldc2_w 28, 3) := by decide +kernel
theorem own_c3_d55 : decode prog_6_method_1_code 55 = .ok (.lcmp, 1) := by decide +kernel
theorem own_c3_d56 : decode prog_6_method_1_code 56 = .ok (.ifCond .le 13, 3) := by decide +kernel
theorem own_c3_d69 : decode prog_6_method_1_code 69 = .ok (.iconst 0, 1) := by decide +kernel
theorem own_c3_d70 : decode prog_6_method_1_code 70 = .ok (.istore 4, 2) := by decide +kernel
theorem own_c3_d72 : decode prog_6_method_1_code 72 = .ok (.iload 4, 2) := by decide +kernel
theorem own_c3_d74 : decode prog_6_method_1_code 74 = .ok (.aload_n 3, 1) := by decide +kernel
theorem own_c3_d75 : decode prog_6_method_1_code 75 = .ok (.arraylength, 1) := by decide +kernel
theorem own_c3_d76 : decode prog_6_method_1_code 76 = .ok (.if_icmp .ge 48, 3) := by decide +kernel
theorem own_c3_d79 : decode prog_6_method_1_code 79 = .ok (.aload_n 3, 1) := by decide +kernel
theorem own_c3_d80 : decode prog_6_method_1_code 80 = .ok (.iload 4, 2) := by decide +kernel
theorem own_c3_d82 : decode prog_6_method_1_code 82 = .ok (.daload, 1) := by decide +kernel
theorem own_c3_d83 : decode prog_6_method_1_code 83 = .ok (.dstore 5, 2) := by decide +kernel
theorem own_c3_d85 : decode prog_6_method_1_code 85 = .ok (.dload 5, 2) := by decide +kernel
theorem own_c3_d87 : decode prog_6_method_1_code 87 = .ok (.dconst 0, 1) := by decide +kernel
theorem own_c3_d88 : decode prog_6_method_1_code 88 = .ok (.dcmp .l, 1) := by decide +kernel
theorem own_c3_d89 : decode prog_6_method_1_code 89 = .ok (.ifCond .lt 10, 3) := by decide +kernel
theorem own_c3_d92 : decode prog_6_method_1_code 92 = .ok (.dload 5, 2) := by decide +kernel
theorem own_c3_d94 : decode prog_6_method_1_code 94 = .ok (.dconst 1, 1) := by decide +kernel
theorem own_c3_d95 : decode prog_6_method_1_code 95 = .ok (.dcmp .g, 1) := by decide +kernel
theorem own_c3_d96 : decode prog_6_method_1_code 96 = .ok (.ifCond .le 22, 3) := by decide +kernel
theorem own_c3_d118 : decode prog_6_method_1_code 118 = .ok (.iinc 4 1, 3) := by decide +kernel
theorem own_c3_d121 : decode prog_6_method_1_code 121 = .ok (.goto (-49), 3) := by decide +kernel
theorem own_c3_d124 : decode prog_6_method_1_code 124 = .ok (.aload_n 0, 1) := by decide +kernel
theorem own_c3_d125 : decode prog_6_method_1_code 125 = .ok (.aload_n 1, 1) := by decide +kernel
theorem own_c3_d126 : decode prog_6_method_1_code 126 = .ok (.putfield 35, 3) := by decide +kernel
theorem own_c3_d129 : decode prog_6_method_1_code 129 = .ok (.aload_n 0, 1) := by decide +kernel
theorem own_c3_d130 : decode prog_6_method_1_code 130 = .ok (.iload_n 2, 1) := by decide +kernel
theorem own_c3_d131 : decode prog_6_method_1_code 131 = .ok (.putfield 40, 3) := by decide +kernel
theorem own_c3_d134 : decode prog_6_method_1_code 134 = .ok (.aload_n 0, 1) := by decide +kernel
theorem own_c3_d135 : decode prog_6_method_1_code 135 = .ok (.aload_n 3, 1) := by decide +kernel
theorem own_c3_d136 : decode prog_6_method_1_code 136 = .ok (.invokevirtual 44, 3) := by decide +kernel
theorem own_c3_d139 : decode prog_6_method_1_code 139 = .ok (.checkcast 45, 3) := by decide +kernel
theorem own_c3_d142 : decode prog_6_method_1_code 142 = .ok (.putfield 50, 3) := by decide +kernel
theorem own_c3_d145 : decode prog_6_method_1_code 145 = .ok (.return_, 1) := by decide +kernel
abbrev own_rmC3_Q (Z : State) (a nm : Addr) (fi : Int32) (ar : Addr) (kr : ClassId) (n0 : Nat) (h0 : Heap) : Option Value → Heap → List Loc → Prop := fun v h L => v = none ∧ Fr n0 L ∧ Keep h0 h [a] ∧ Exa Z h a "com/example/vestry/vestry/actuarial/MortalityTable" ∧ Fld Z h a "com/example/vestry/vestry/actuarial/MortalityTable" "minimumAge" "I" (.int fi) ∧ ∃ b kb, Fld Z h a "com/example/vestry/vestry/actuarial/MortalityTable" "rates" "[D" (.ref b) ∧ h0.size ≤ b ∧ Arv Z h b kb .double (3 : Int32) [(.double (4607182418800017408 : UInt64)), (.double (0 : UInt64)), (.double (4604930618986332160 : UInt64))] (.double 0)
set_option maxRecDepth 65536 in
set_option maxHeartbeats 40000000 in
theorem own_rmC3 (l : Launch) (Z : State) (a0 : Array Value) (hw : ∀ d ∈ tables_1, d.before a0 Z = true) (a nm : Addr) (fi : Int32) (ar : Addr) (kr : ClassId) (n0 : Nat) (h0 : Heap) (Z0 : n0 ≤ h0.size) (ga : n0 ≤ a) (gar : n0 ≤ ar) (hne : ar ≠ a) (hp1 : ¬ fi < 0) (hp2 : ¬ (0 : Int32) < XS.cmpL ((fi.toInt64 + (3 : Int64)) - (1 : Int64)) (2147483647 : Int64)) (EA : Exa Z h0 a "com/example/vestry/vestry/actuarial/MortalityTable") (F_name : Fld Z h0 a "com/example/vestry/vestry/actuarial/MortalityTable" "name" "Ljava/lang/String;" .null) (F_minimumAge : Fld Z h0 a "com/example/vestry/vestry/actuarial/MortalityTable" "minimumAge" "I" (.int 0)) (F_rates : Fld Z h0 a "com/example/vestry/vestry/actuarial/MortalityTable" "rates" "[D" .null) (VR : Arv Z h0 ar kr .double (3 : Int32) [(.double (4607182418800017408 : UInt64)), (.double (0 : UInt64)), (.double (4604930618986332160 : UInt64))] (.double 0)) (ER : Exa Z h0 ar "[D") :
    MetFree l (⟨"com/example/vestry/vestry/actuarial/MortalityTable", "<init>", "(Ljava/lang/String;I[D)V"⟩ : MethodName) (head1 [Jvm.Cond.code (⟨"com/example/vestry/vestry/actuarial/MortalityTable", "<init>", "(Ljava/lang/String;I[D)V"⟩ : MethodName) prog_6_method_1_code 7 none] ({ frames := 1, cells := 3, slots := 23, locals := 26 } : Room)) (fun aa U => aa = #[(.ref a), (.ref nm), (.int fi), (.ref ar)] ∧ Z.Warmed39 U.vm ∧ U.heap = h0) (fun _ _ _ _ _ => True) (fun _ U o U' => ∃ v L, o = .returned v ∧ ((own_rmC3_Q Z a nm fi ar kr n0 h0)) v U'.heap L ∧ ReturnedEndW U o U' L ({ frames := 1, cells := 3, slots := 23, locals := 26 } : Room).cells ({ frames := 1, cells := 3, slots := 23, locals := 26 } : Room).slots) := by
  refine goBodyW (y := (⟨"com/example/vestry/vestry/actuarial/MortalityTable", "<init>", "(Ljava/lang/String;I[D)V"⟩ : MethodName)) (Q := (own_rmC3_Q Z a nm fi ar kr n0 h0)) (plainFor_of_name (by first | (simp [plainName, overriddenIn]; done) | decide +kernel)) ?_
  intro p e s m below meth c T0 hx hZ hby hml hown hnm hret hlk X0 e0 hS
  have wS : ∀ d ∈ Bundle.stringAtoms, d.before a0 Z = true := fun d hd => by
    simp only [Bundle.stringAtoms, List.mem_cons, List.not_mem_nil, or_false] at hd
    rcases hd with rfl | rfl | rfl | rfl | rfl | rfl | rfl
    · exact (hw _ (List.mem_of_getElem? (i := 13) rfl))
    · exact (hw _ (List.mem_of_getElem? (i := 14) rfl))
    · exact (hw _ (List.mem_of_getElem? (i := 15) rfl))
    · exact (hw _ (List.mem_of_getElem? (i := 16) rfl))
    · exact (hw _ (List.mem_of_getElem? (i := 17) rfl))
    · exact (hw _ (List.mem_of_getElem? (i := 18) rfl))
    · exact (hw _ (List.mem_of_getElem? (i := 19) rfl))
  have hk : 0 ≤ h0.size := Nat.zero_le _
  have hown : s.vm.findClass "com/example/vestry/vestry/actuarial/MortalityTable" = some m.cls := hown
  refine Go.cast (g' := mkF m 0 #[.val (.ref a), .val (.ref nm), .val (.int fi), .val (.ref ar), .unset, .unset, .unset] []) (by first | (simp [entryFrame, mkF, argsToLocals, Value.category]; done) | rfl) ?_
  show Go p e below _ T0 (mkF m 0 #[.val (.ref a), .val (.ref nm), .val (.int fi), .val (.ref ar), .unset, .unset, .unset] [])
  refine Go.of (fun _ kz => XS.aloadN X0.here hx rfl (hb hby own_c3_d0) rfl rfl kz) ?_
  show Go p e below _ T0 (mkF m 1 #[.val (.ref a), .val (.ref nm), .val (.int fi), .val (.ref ar), .unset, .unset, .unset] [(.ref a)])
  refine Go.initObj X0 hx hZ hown (hw _ (List.mem_of_getElem? (i := 23) rfl)) (hw _ (List.mem_of_getElem? (i := 24) rfl)) (hw _ (List.mem_of_getElem? (i := 25) rfl)) e0 (by rw [hml]; rfl) (hb hby own_c3_d1) (by decide) (W := 0) (Nat.le_of_eq rfl) (by decide) fun T1 X1 e1 => ?_
  show Go p e below _ T1 (mkF m 4 #[.val (.ref a), .val (.ref nm), .val (.int fi), .val (.ref ar), .unset, .unset, .unset] [])
  refine Go.of (fun _ kz => XS.aloadN X1.here hx rfl (hb hby own_c3_d4) rfl rfl kz) ?_
  show Go p e below _ T1 (mkF m 5 #[.val (.ref a), .val (.ref nm), .val (.int fi), .val (.ref ar), .unset, .unset, .unset] [(.ref nm)])
  refine Go.ldcS X1 hx hZ hown (hw _ (List.mem_of_getElem? (i := 26) rfl)) wS e1 hS hk (hb hby own_c3_d5) 16 (by decide) (by decide) (by decide) (by decide) fun b2 T2 h2 k2 X2 e2 E2 hS hk2 hZ hown => ?_
  have sz2 : n0 ≤ h2.size := Nat.le_trans Z0 E2.1
  have kp2 : Keep h0 h2 [a] := (Keep.refl h0 [a]).ext E2
  show Go p e below _ T2 (mkF m 7 #[.val (.ref a), .val (.ref nm), .val (.int fi), .val (.ref ar), .unset, .unset, .unset] [(.ref b2), (.ref nm)])
  refine Go.callSP (W := 0) (y := (⟨"java/util/Objects", "requireNonNull", "(Ljava/lang/Object;Ljava/lang/String;)Ljava/lang/Object;"⟩ : MethodName)) (argsL := [(.ref nm), (.ref b2)]) (rest := []) (r := some (.ref nm)) X2 hx hZ hown (hw _ (List.mem_of_getElem? (i := 27) rfl)) (hw _ (List.mem_of_getElem? (i := 28) rfl)) (hw _ (List.mem_of_getElem? (i := 29) rfl)) (hw _ (List.mem_of_getElem? (i := 30) rfl)) (by decide) (own_rmQ l Z a0 hw nm b2 h2) e2 (by rw [hml]; rfl) (lenOf own_dsc0 rfl) (hb hby own_c3_d7) rfl (Nat.le_of_eq rfl) (by decide) (by decide) (by decide) (by decide) fun T3 X3 e3 => ?_
  show Go p e below _ T3 (mkF m 10 #[.val (.ref a), .val (.ref nm), .val (.int fi), .val (.ref ar), .unset, .unset, .unset] [(.ref nm)])
  refine Go.of (fun _ kz => XS.pop X3.here hx rfl (hb hby own_c3_d10) rfl rfl kz) ?_
  show Go p e below _ T3 (mkF m 11 #[.val (.ref a), .val (.ref nm), .val (.int fi), .val (.ref ar), .unset, .unset, .unset] [])
  refine Go.of (fun _ kz => XS.iloadN X3.here hx rfl (hb hby own_c3_d11) rfl kz) ?_
  show Go p e below _ T3 (mkF m 12 #[.val (.ref a), .val (.ref nm), .val (.int fi), .val (.ref ar), .unset, .unset, .unset] [(.int fi)])
  refine Go.of (fun _ kz => XS.ifYes X3.here hx rfl (pc0 := 12) (pc' := 29) rfl (hb hby own_c3_d12) rfl ((if0 _ _).trans (flt hp1).2.1) (by decide) (by decide) kz) ?_
  show Go p e below _ T3 (mkF m 29 #[.val (.ref a), .val (.ref nm), .val (.int fi), .val (.ref ar), .unset, .unset, .unset] [])
  refine Go.of (fun _ kz => XS.aloadN X3.here hx rfl (hb hby own_c3_d29) rfl rfl kz) ?_
  show Go p e below _ T3 (mkF m 30 #[.val (.ref a), .val (.ref nm), .val (.int fi), .val (.ref ar), .unset, .unset, .unset] [(.ref ar)])
  refine Go.len X3 hx hZ e3 (VR.ext E2) (hb hby own_c3_d30) ?_
  show Go p e below _ T3 (mkF m 31 #[.val (.ref a), .val (.ref nm), .val (.int fi), .val (.ref ar), .unset, .unset, .unset] [(.int (3 : Int32))])
  refine Go.of (fun _ kz => XS.ifYes X3.here hx rfl (pc0 := 31) (pc' := 44) rfl (hb hby own_c3_d31) rfl ((if0 _ _).trans (feq (by decide : ¬ ((3 : Int32) = (0 : Int32)))).2) (by decide) (by decide) kz) ?_
  show Go p e below _ T3 (mkF m 44 #[.val (.ref a), .val (.ref nm), .val (.int fi), .val (.ref ar), .unset, .unset, .unset] [])
  refine Go.of (fun _ kz => XS.iloadN X3.here hx rfl (hb hby own_c3_d44) rfl kz) ?_
  show Go p e below _ T3 (mkF m 45 #[.val (.ref a), .val (.ref nm), .val (.int fi), .val (.ref ar), .unset, .unset, .unset] [(.int fi)])
  refine Go.of (fun _ kz => XS.i2l X3.here hx rfl (hb hby own_c3_d45) rfl kz) ?_
  show Go p e below _ T3 (mkF m 46 #[.val (.ref a), .val (.ref nm), .val (.int fi), .val (.ref ar), .unset, .unset, .unset] [(.long (fi.toInt64))])
  refine Go.of (fun _ kz => XS.aloadN X3.here hx rfl (hb hby own_c3_d46) rfl rfl kz) ?_
  show Go p e below _ T3 (mkF m 47 #[.val (.ref a), .val (.ref nm), .val (.int fi), .val (.ref ar), .unset, .unset, .unset] [(.ref ar), (.long (fi.toInt64))])
  refine Go.len X3 hx hZ e3 (VR.ext E2) (hb hby own_c3_d47) ?_
  show Go p e below _ T3 (mkF m 48 #[.val (.ref a), .val (.ref nm), .val (.int fi), .val (.ref ar), .unset, .unset, .unset] [(.int (3 : Int32)), (.long (fi.toInt64))])
  refine Go.of (fun _ kz => XS.i2l X3.here hx rfl (hb hby own_c3_d48) rfl kz) ?_
  show Go p e below _ T3 (mkF m 49 #[.val (.ref a), .val (.ref nm), .val (.int fi), .val (.ref ar), .unset, .unset, .unset] [(.long (3 : Int64)), (.long (fi.toInt64))])
  refine Go.of (fun _ kz => XS.ladd X3.here hx rfl (hb hby own_c3_d49) rfl kz) ?_
  show Go p e below _ T3 (mkF m 50 #[.val (.ref a), .val (.ref nm), .val (.int fi), .val (.ref ar), .unset, .unset, .unset] [(.long ((fi.toInt64) + (3 : Int64)))])
  refine Go.of (fun _ kz => XS.lconst X3.here hx rfl (hb hby own_c3_d50) kz) ?_
  show Go p e below _ T3 (mkF m 51 #[.val (.ref a), .val (.ref nm), .val (.int fi), .val (.ref ar), .unset, .unset, .unset] [(.long (1 : Int64)), (.long ((fi.toInt64) + (3 : Int64)))])
  refine Go.of (fun _ kz => XS.lsub X3.here hx rfl (hb hby own_c3_d51) rfl kz) ?_
  show Go p e below _ T3 (mkF m 52 #[.val (.ref a), .val (.ref nm), .val (.int fi), .val (.ref ar), .unset, .unset, .unset] [(.long (((fi.toInt64) + (3 : Int64)) - (1 : Int64)))])
  refine Go.of (X3.ldc2Long hx hown (mvT hZ (hw _ (List.mem_of_getElem? (i := 31) rfl))) (g := (mkF m 52 #[.val (.ref a), .val (.ref nm), .val (.int fi), .val (.ref ar), .unset, .unset, .unset] [(.long (((fi.toInt64) + (3 : Int64)) - (1 : Int64)))])) rfl (hb hby own_c3_d52)) ?_
  show Go p e below _ T3 (mkF m 55 #[.val (.ref a), .val (.ref nm), .val (.int fi), .val (.ref ar), .unset, .unset, .unset] [(.long (2147483647 : Int64)), (.long (((fi.toInt64) + (3 : Int64)) - (1 : Int64)))])
  refine Go.of (fun _ kz => XS.lcmp X3.here hx rfl (hb hby own_c3_d55) rfl kz) ?_
  show Go p e below _ T3 (mkF m 56 #[.val (.ref a), .val (.ref nm), .val (.int fi), .val (.ref ar), .unset, .unset, .unset] [(.int (XS.cmpL (((fi.toInt64) + (3 : Int64)) - (1 : Int64)) (2147483647 : Int64)))])
  refine Go.of (fun _ kz => XS.ifYes X3.here hx rfl (pc0 := 56) (pc' := 69) rfl (hb hby own_c3_d56) rfl ((if0 _ _).trans (flt hp2).2.2.2) (by decide) (by decide) kz) ?_
  show Go p e below _ T3 (mkF m 69 #[.val (.ref a), .val (.ref nm), .val (.int fi), .val (.ref ar), .unset, .unset, .unset] [])
  refine Go.of (fun _ kz => XS.iconst X3.here hx rfl (hb hby own_c3_d69) kz) ?_
  show Go p e below _ T3 (mkF m 70 #[.val (.ref a), .val (.ref nm), .val (.int fi), .val (.ref ar), .unset, .unset, .unset] [(.int (0 : Int32))])
  refine Go.of (fun _ kz => XS.istore X3.here hx rfl (hb hby own_c3_d70) rfl (l' := #[.val (.ref a), .val (.ref nm), .val (.int fi), .val (.ref ar), .val (.int (0 : Int32)), .unset, .unset]) rfl kz) ?_
  show Go p e below _ T3 (mkF m 72 #[.val (.ref a), .val (.ref nm), .val (.int fi), .val (.ref ar), .val (.int (0 : Int32)), .unset, .unset] [])
  refine Go.of (fun _ kz => XS.iload X3.here hx rfl (hb hby own_c3_d72) rfl kz) ?_
  show Go p e below _ T3 (mkF m 74 #[.val (.ref a), .val (.ref nm), .val (.int fi), .val (.ref ar), .val (.int (0 : Int32)), .unset, .unset] [(.int (0 : Int32))])
  refine Go.of (fun _ kz => XS.aloadN X3.here hx rfl (hb hby own_c3_d74) rfl rfl kz) ?_
  show Go p e below _ T3 (mkF m 75 #[.val (.ref a), .val (.ref nm), .val (.int fi), .val (.ref ar), .val (.int (0 : Int32)), .unset, .unset] [(.ref ar), (.int (0 : Int32))])
  refine Go.len X3 hx hZ e3 (VR.ext E2) (hb hby own_c3_d75) ?_
  show Go p e below _ T3 (mkF m 76 #[.val (.ref a), .val (.ref nm), .val (.int fi), .val (.ref ar), .val (.int (0 : Int32)), .unset, .unset] [(.int (3 : Int32)), (.int (0 : Int32))])
  refine Go.of (fun _ kz => XS.icmpNo X3.here hx rfl (hb hby own_c3_d76) rfl (tlt (by decide : (0 : Int32) < (3 : Int32))).2.1 kz) ?_
  show Go p e below _ T3 (mkF m 79 #[.val (.ref a), .val (.ref nm), .val (.int fi), .val (.ref ar), .val (.int (0 : Int32)), .unset, .unset] [])
  refine Go.of (fun _ kz => XS.aloadN X3.here hx rfl (hb hby own_c3_d79) rfl rfl kz) ?_
  show Go p e below _ T3 (mkF m 80 #[.val (.ref a), .val (.ref nm), .val (.int fi), .val (.ref ar), .val (.int (0 : Int32)), .unset, .unset] [(.ref ar)])
  refine Go.of (fun _ kz => XS.iload X3.here hx rfl (hb hby own_c3_d80) rfl kz) ?_
  show Go p e below _ T3 (mkF m 82 #[.val (.ref a), .val (.ref nm), .val (.int fi), .val (.ref ar), .val (.int (0 : Int32)), .unset, .unset] [(.int (0 : Int32)), (.ref ar)])
  refine Go.daload X3 hx hZ e3 (VR.ext E2) ⟨by decide, by decide⟩ (v := (.double (4607182418800017408 : UInt64))) rfl (hb hby own_c3_d82) ?_
  show Go p e below _ T3 (mkF m 83 #[.val (.ref a), .val (.ref nm), .val (.int fi), .val (.ref ar), .val (.int (0 : Int32)), .unset, .unset] [(.double (4607182418800017408 : UInt64))])
  refine Go.of (fun _ kz => XS.dstore X3.here hx rfl (hb hby own_c3_d83) rfl (l' := #[.val (.ref a), .val (.ref nm), .val (.int fi), .val (.ref ar), .val (.int (0 : Int32)), .val (.double (4607182418800017408 : UInt64)), .second]) rfl kz) ?_
  show Go p e below _ T3 (mkF m 85 #[.val (.ref a), .val (.ref nm), .val (.int fi), .val (.ref ar), .val (.int (0 : Int32)), .val (.double (4607182418800017408 : UInt64)), .second] [])
  refine Go.of (fun _ kz => XS.dload X3.here hx rfl (hb hby own_c3_d85) rfl kz) ?_
  show Go p e below _ T3 (mkF m 87 #[.val (.ref a), .val (.ref nm), .val (.int fi), .val (.ref ar), .val (.int (0 : Int32)), .val (.double (4607182418800017408 : UInt64)), .second] [(.double (4607182418800017408 : UInt64))])
  refine Go.of (fun _ kz => XS.dconst0 X3.here hx rfl (hb hby own_c3_d87) (v := 0) (by decide +kernel) kz) ?_
  show Go p e below _ T3 (mkF m 88 #[.val (.ref a), .val (.ref nm), .val (.int fi), .val (.ref ar), .val (.int (0 : Int32)), .val (.double (4607182418800017408 : UInt64)), .second] [(.double (0 : UInt64)), (.double (4607182418800017408 : UInt64))])
  refine Go.of (fun _ kz => XS.dcmpS X3.here hx rfl (hb hby own_c3_d88) rfl rfl kz) ?_
  show Go p e below _ T3 (mkF m 89 #[.val (.ref a), .val (.ref nm), .val (.int fi), .val (.ref ar), .val (.int (0 : Int32)), .val (.double (4607182418800017408 : UInt64)), .second] [(.int (cmpValue (FP.dcmp (4607182418800017408 : UInt64) (0 : UInt64)) .l))])
  refine Go.of (fun _ kz => XS.ifNo X3.here hx rfl (hb hby own_c3_d89) rfl ((if0 _ _).trans (flt (by decide +kernel : ¬ (cmpValue (FP.dcmp (4607182418800017408 : UInt64) (0 : UInt64)) .l) < (0 : Int32))).1) kz) ?_
  show Go p e below _ T3 (mkF m 92 #[.val (.ref a), .val (.ref nm), .val (.int fi), .val (.ref ar), .val (.int (0 : Int32)), .val (.double (4607182418800017408 : UInt64)), .second] [])
  refine Go.of (fun _ kz => XS.dload X3.here hx rfl (hb hby own_c3_d92) rfl kz) ?_
  show Go p e below _ T3 (mkF m 94 #[.val (.ref a), .val (.ref nm), .val (.int fi), .val (.ref ar), .val (.int (0 : Int32)), .val (.double (4607182418800017408 : UInt64)), .second] [(.double (4607182418800017408 : UInt64))])
  refine Go.of (fun _ kz => XS.dconst1 X3.here hx rfl (hb hby own_c3_d94) (v := 4607182418800017408) (by decide +kernel) kz) ?_
  show Go p e below _ T3 (mkF m 95 #[.val (.ref a), .val (.ref nm), .val (.int fi), .val (.ref ar), .val (.int (0 : Int32)), .val (.double (4607182418800017408 : UInt64)), .second] [(.double (4607182418800017408 : UInt64)), (.double (4607182418800017408 : UInt64))])
  refine Go.of (fun _ kz => XS.dcmpS X3.here hx rfl (hb hby own_c3_d95) rfl rfl kz) ?_
  show Go p e below _ T3 (mkF m 96 #[.val (.ref a), .val (.ref nm), .val (.int fi), .val (.ref ar), .val (.int (0 : Int32)), .val (.double (4607182418800017408 : UInt64)), .second] [(.int (cmpValue (FP.dcmp (4607182418800017408 : UInt64) (4607182418800017408 : UInt64)) .g))])
  refine Go.of (fun _ kz => XS.ifYes X3.here hx rfl (pc0 := 96) (pc' := 118) rfl (hb hby own_c3_d96) rfl ((if0 _ _).trans (flt (by decide +kernel : ¬ (0 : Int32) < (cmpValue (FP.dcmp (4607182418800017408 : UInt64) (4607182418800017408 : UInt64)) .g))).2.2.2) (by decide) (by decide) kz) ?_
  show Go p e below _ T3 (mkF m 118 #[.val (.ref a), .val (.ref nm), .val (.int fi), .val (.ref ar), .val (.int (0 : Int32)), .val (.double (4607182418800017408 : UInt64)), .second] [])
  refine Go.of (fun _ kz => XS.iinc X3.here hx rfl (hb hby own_c3_d118) rfl (l' := #[.val (.ref a), .val (.ref nm), .val (.int fi), .val (.ref ar), .val (.int (1 : Int32)), .val (.double (4607182418800017408 : UInt64)), .second]) rfl kz) ?_
  show Go p e below _ T3 (mkF m 121 #[.val (.ref a), .val (.ref nm), .val (.int fi), .val (.ref ar), .val (.int (1 : Int32)), .val (.double (4607182418800017408 : UInt64)), .second] [])
  refine Go.of (fun _ kz => XS.goto X3.here hx rfl (pc0 := 121) (pc' := 72) rfl (hb hby own_c3_d121) (by decide) (by decide) kz) ?_
  show Go p e below _ T3 (mkF m 72 #[.val (.ref a), .val (.ref nm), .val (.int fi), .val (.ref ar), .val (.int (1 : Int32)), .val (.double (4607182418800017408 : UInt64)), .second] [])
  refine Go.of (fun _ kz => XS.iload X3.here hx rfl (hb hby own_c3_d72) rfl kz) ?_
  show Go p e below _ T3 (mkF m 74 #[.val (.ref a), .val (.ref nm), .val (.int fi), .val (.ref ar), .val (.int (1 : Int32)), .val (.double (4607182418800017408 : UInt64)), .second] [(.int (1 : Int32))])
  refine Go.of (fun _ kz => XS.aloadN X3.here hx rfl (hb hby own_c3_d74) rfl rfl kz) ?_
  show Go p e below _ T3 (mkF m 75 #[.val (.ref a), .val (.ref nm), .val (.int fi), .val (.ref ar), .val (.int (1 : Int32)), .val (.double (4607182418800017408 : UInt64)), .second] [(.ref ar), (.int (1 : Int32))])
  refine Go.len X3 hx hZ e3 (VR.ext E2) (hb hby own_c3_d75) ?_
  show Go p e below _ T3 (mkF m 76 #[.val (.ref a), .val (.ref nm), .val (.int fi), .val (.ref ar), .val (.int (1 : Int32)), .val (.double (4607182418800017408 : UInt64)), .second] [(.int (3 : Int32)), (.int (1 : Int32))])
  refine Go.of (fun _ kz => XS.icmpNo X3.here hx rfl (hb hby own_c3_d76) rfl (tlt (by decide : (1 : Int32) < (3 : Int32))).2.1 kz) ?_
  show Go p e below _ T3 (mkF m 79 #[.val (.ref a), .val (.ref nm), .val (.int fi), .val (.ref ar), .val (.int (1 : Int32)), .val (.double (4607182418800017408 : UInt64)), .second] [])
  refine Go.of (fun _ kz => XS.aloadN X3.here hx rfl (hb hby own_c3_d79) rfl rfl kz) ?_
  show Go p e below _ T3 (mkF m 80 #[.val (.ref a), .val (.ref nm), .val (.int fi), .val (.ref ar), .val (.int (1 : Int32)), .val (.double (4607182418800017408 : UInt64)), .second] [(.ref ar)])
  refine Go.of (fun _ kz => XS.iload X3.here hx rfl (hb hby own_c3_d80) rfl kz) ?_
  show Go p e below _ T3 (mkF m 82 #[.val (.ref a), .val (.ref nm), .val (.int fi), .val (.ref ar), .val (.int (1 : Int32)), .val (.double (4607182418800017408 : UInt64)), .second] [(.int (1 : Int32)), (.ref ar)])
  refine Go.daload X3 hx hZ e3 (VR.ext E2) ⟨by decide, by decide⟩ (v := (.double (0 : UInt64))) rfl (hb hby own_c3_d82) ?_
  show Go p e below _ T3 (mkF m 83 #[.val (.ref a), .val (.ref nm), .val (.int fi), .val (.ref ar), .val (.int (1 : Int32)), .val (.double (4607182418800017408 : UInt64)), .second] [(.double (0 : UInt64))])
  refine Go.of (fun _ kz => XS.dstore X3.here hx rfl (hb hby own_c3_d83) rfl (l' := #[.val (.ref a), .val (.ref nm), .val (.int fi), .val (.ref ar), .val (.int (1 : Int32)), .val (.double (0 : UInt64)), .second]) rfl kz) ?_
  show Go p e below _ T3 (mkF m 85 #[.val (.ref a), .val (.ref nm), .val (.int fi), .val (.ref ar), .val (.int (1 : Int32)), .val (.double (0 : UInt64)), .second] [])
  refine Go.of (fun _ kz => XS.dload X3.here hx rfl (hb hby own_c3_d85) rfl kz) ?_
  show Go p e below _ T3 (mkF m 87 #[.val (.ref a), .val (.ref nm), .val (.int fi), .val (.ref ar), .val (.int (1 : Int32)), .val (.double (0 : UInt64)), .second] [(.double (0 : UInt64))])
  refine Go.of (fun _ kz => XS.dconst0 X3.here hx rfl (hb hby own_c3_d87) (v := 0) (by decide +kernel) kz) ?_
  show Go p e below _ T3 (mkF m 88 #[.val (.ref a), .val (.ref nm), .val (.int fi), .val (.ref ar), .val (.int (1 : Int32)), .val (.double (0 : UInt64)), .second] [(.double (0 : UInt64)), (.double (0 : UInt64))])
  refine Go.of (fun _ kz => XS.dcmpS X3.here hx rfl (hb hby own_c3_d88) rfl rfl kz) ?_
  show Go p e below _ T3 (mkF m 89 #[.val (.ref a), .val (.ref nm), .val (.int fi), .val (.ref ar), .val (.int (1 : Int32)), .val (.double (0 : UInt64)), .second] [(.int (cmpValue (FP.dcmp (0 : UInt64) (0 : UInt64)) .l))])
  refine Go.of (fun _ kz => XS.ifNo X3.here hx rfl (hb hby own_c3_d89) rfl ((if0 _ _).trans (flt (by decide +kernel : ¬ (cmpValue (FP.dcmp (0 : UInt64) (0 : UInt64)) .l) < (0 : Int32))).1) kz) ?_
  show Go p e below _ T3 (mkF m 92 #[.val (.ref a), .val (.ref nm), .val (.int fi), .val (.ref ar), .val (.int (1 : Int32)), .val (.double (0 : UInt64)), .second] [])
  refine Go.of (fun _ kz => XS.dload X3.here hx rfl (hb hby own_c3_d92) rfl kz) ?_
  show Go p e below _ T3 (mkF m 94 #[.val (.ref a), .val (.ref nm), .val (.int fi), .val (.ref ar), .val (.int (1 : Int32)), .val (.double (0 : UInt64)), .second] [(.double (0 : UInt64))])
  refine Go.of (fun _ kz => XS.dconst1 X3.here hx rfl (hb hby own_c3_d94) (v := 4607182418800017408) (by decide +kernel) kz) ?_
  show Go p e below _ T3 (mkF m 95 #[.val (.ref a), .val (.ref nm), .val (.int fi), .val (.ref ar), .val (.int (1 : Int32)), .val (.double (0 : UInt64)), .second] [(.double (4607182418800017408 : UInt64)), (.double (0 : UInt64))])
  refine Go.of (fun _ kz => XS.dcmpS X3.here hx rfl (hb hby own_c3_d95) rfl rfl kz) ?_
  show Go p e below _ T3 (mkF m 96 #[.val (.ref a), .val (.ref nm), .val (.int fi), .val (.ref ar), .val (.int (1 : Int32)), .val (.double (0 : UInt64)), .second] [(.int (cmpValue (FP.dcmp (0 : UInt64) (4607182418800017408 : UInt64)) .g))])
  refine Go.of (fun _ kz => XS.ifYes X3.here hx rfl (pc0 := 96) (pc' := 118) rfl (hb hby own_c3_d96) rfl ((if0 _ _).trans (flt (by decide +kernel : ¬ (0 : Int32) < (cmpValue (FP.dcmp (0 : UInt64) (4607182418800017408 : UInt64)) .g))).2.2.2) (by decide) (by decide) kz) ?_
  show Go p e below _ T3 (mkF m 118 #[.val (.ref a), .val (.ref nm), .val (.int fi), .val (.ref ar), .val (.int (1 : Int32)), .val (.double (0 : UInt64)), .second] [])
  refine Go.of (fun _ kz => XS.iinc X3.here hx rfl (hb hby own_c3_d118) rfl (l' := #[.val (.ref a), .val (.ref nm), .val (.int fi), .val (.ref ar), .val (.int (2 : Int32)), .val (.double (0 : UInt64)), .second]) rfl kz) ?_
  show Go p e below _ T3 (mkF m 121 #[.val (.ref a), .val (.ref nm), .val (.int fi), .val (.ref ar), .val (.int (2 : Int32)), .val (.double (0 : UInt64)), .second] [])
  refine Go.of (fun _ kz => XS.goto X3.here hx rfl (pc0 := 121) (pc' := 72) rfl (hb hby own_c3_d121) (by decide) (by decide) kz) ?_
  show Go p e below _ T3 (mkF m 72 #[.val (.ref a), .val (.ref nm), .val (.int fi), .val (.ref ar), .val (.int (2 : Int32)), .val (.double (0 : UInt64)), .second] [])
  refine Go.of (fun _ kz => XS.iload X3.here hx rfl (hb hby own_c3_d72) rfl kz) ?_
  show Go p e below _ T3 (mkF m 74 #[.val (.ref a), .val (.ref nm), .val (.int fi), .val (.ref ar), .val (.int (2 : Int32)), .val (.double (0 : UInt64)), .second] [(.int (2 : Int32))])
  refine Go.of (fun _ kz => XS.aloadN X3.here hx rfl (hb hby own_c3_d74) rfl rfl kz) ?_
  show Go p e below _ T3 (mkF m 75 #[.val (.ref a), .val (.ref nm), .val (.int fi), .val (.ref ar), .val (.int (2 : Int32)), .val (.double (0 : UInt64)), .second] [(.ref ar), (.int (2 : Int32))])
  refine Go.len X3 hx hZ e3 (VR.ext E2) (hb hby own_c3_d75) ?_
  show Go p e below _ T3 (mkF m 76 #[.val (.ref a), .val (.ref nm), .val (.int fi), .val (.ref ar), .val (.int (2 : Int32)), .val (.double (0 : UInt64)), .second] [(.int (3 : Int32)), (.int (2 : Int32))])
  refine Go.of (fun _ kz => XS.icmpNo X3.here hx rfl (hb hby own_c3_d76) rfl (tlt (by decide : (2 : Int32) < (3 : Int32))).2.1 kz) ?_
  show Go p e below _ T3 (mkF m 79 #[.val (.ref a), .val (.ref nm), .val (.int fi), .val (.ref ar), .val (.int (2 : Int32)), .val (.double (0 : UInt64)), .second] [])
  refine Go.of (fun _ kz => XS.aloadN X3.here hx rfl (hb hby own_c3_d79) rfl rfl kz) ?_
  show Go p e below _ T3 (mkF m 80 #[.val (.ref a), .val (.ref nm), .val (.int fi), .val (.ref ar), .val (.int (2 : Int32)), .val (.double (0 : UInt64)), .second] [(.ref ar)])
  refine Go.of (fun _ kz => XS.iload X3.here hx rfl (hb hby own_c3_d80) rfl kz) ?_
  show Go p e below _ T3 (mkF m 82 #[.val (.ref a), .val (.ref nm), .val (.int fi), .val (.ref ar), .val (.int (2 : Int32)), .val (.double (0 : UInt64)), .second] [(.int (2 : Int32)), (.ref ar)])
  refine Go.daload X3 hx hZ e3 (VR.ext E2) ⟨by decide, by decide⟩ (v := (.double (4604930618986332160 : UInt64))) rfl (hb hby own_c3_d82) ?_
  show Go p e below _ T3 (mkF m 83 #[.val (.ref a), .val (.ref nm), .val (.int fi), .val (.ref ar), .val (.int (2 : Int32)), .val (.double (0 : UInt64)), .second] [(.double (4604930618986332160 : UInt64))])
  refine Go.of (fun _ kz => XS.dstore X3.here hx rfl (hb hby own_c3_d83) rfl (l' := #[.val (.ref a), .val (.ref nm), .val (.int fi), .val (.ref ar), .val (.int (2 : Int32)), .val (.double (4604930618986332160 : UInt64)), .second]) rfl kz) ?_
  show Go p e below _ T3 (mkF m 85 #[.val (.ref a), .val (.ref nm), .val (.int fi), .val (.ref ar), .val (.int (2 : Int32)), .val (.double (4604930618986332160 : UInt64)), .second] [])
  refine Go.of (fun _ kz => XS.dload X3.here hx rfl (hb hby own_c3_d85) rfl kz) ?_
  show Go p e below _ T3 (mkF m 87 #[.val (.ref a), .val (.ref nm), .val (.int fi), .val (.ref ar), .val (.int (2 : Int32)), .val (.double (4604930618986332160 : UInt64)), .second] [(.double (4604930618986332160 : UInt64))])
  refine Go.of (fun _ kz => XS.dconst0 X3.here hx rfl (hb hby own_c3_d87) (v := 0) (by decide +kernel) kz) ?_
  show Go p e below _ T3 (mkF m 88 #[.val (.ref a), .val (.ref nm), .val (.int fi), .val (.ref ar), .val (.int (2 : Int32)), .val (.double (4604930618986332160 : UInt64)), .second] [(.double (0 : UInt64)), (.double (4604930618986332160 : UInt64))])
  refine Go.of (fun _ kz => XS.dcmpS X3.here hx rfl (hb hby own_c3_d88) rfl rfl kz) ?_
  show Go p e below _ T3 (mkF m 89 #[.val (.ref a), .val (.ref nm), .val (.int fi), .val (.ref ar), .val (.int (2 : Int32)), .val (.double (4604930618986332160 : UInt64)), .second] [(.int (cmpValue (FP.dcmp (4604930618986332160 : UInt64) (0 : UInt64)) .l))])
  refine Go.of (fun _ kz => XS.ifNo X3.here hx rfl (hb hby own_c3_d89) rfl ((if0 _ _).trans (flt (by decide +kernel : ¬ (cmpValue (FP.dcmp (4604930618986332160 : UInt64) (0 : UInt64)) .l) < (0 : Int32))).1) kz) ?_
  show Go p e below _ T3 (mkF m 92 #[.val (.ref a), .val (.ref nm), .val (.int fi), .val (.ref ar), .val (.int (2 : Int32)), .val (.double (4604930618986332160 : UInt64)), .second] [])
  refine Go.of (fun _ kz => XS.dload X3.here hx rfl (hb hby own_c3_d92) rfl kz) ?_
  show Go p e below _ T3 (mkF m 94 #[.val (.ref a), .val (.ref nm), .val (.int fi), .val (.ref ar), .val (.int (2 : Int32)), .val (.double (4604930618986332160 : UInt64)), .second] [(.double (4604930618986332160 : UInt64))])
  refine Go.of (fun _ kz => XS.dconst1 X3.here hx rfl (hb hby own_c3_d94) (v := 4607182418800017408) (by decide +kernel) kz) ?_
  show Go p e below _ T3 (mkF m 95 #[.val (.ref a), .val (.ref nm), .val (.int fi), .val (.ref ar), .val (.int (2 : Int32)), .val (.double (4604930618986332160 : UInt64)), .second] [(.double (4607182418800017408 : UInt64)), (.double (4604930618986332160 : UInt64))])
  refine Go.of (fun _ kz => XS.dcmpS X3.here hx rfl (hb hby own_c3_d95) rfl rfl kz) ?_
  show Go p e below _ T3 (mkF m 96 #[.val (.ref a), .val (.ref nm), .val (.int fi), .val (.ref ar), .val (.int (2 : Int32)), .val (.double (4604930618986332160 : UInt64)), .second] [(.int (cmpValue (FP.dcmp (4604930618986332160 : UInt64) (4607182418800017408 : UInt64)) .g))])
  refine Go.of (fun _ kz => XS.ifYes X3.here hx rfl (pc0 := 96) (pc' := 118) rfl (hb hby own_c3_d96) rfl ((if0 _ _).trans (flt (by decide +kernel : ¬ (0 : Int32) < (cmpValue (FP.dcmp (4604930618986332160 : UInt64) (4607182418800017408 : UInt64)) .g))).2.2.2) (by decide) (by decide) kz) ?_
  show Go p e below _ T3 (mkF m 118 #[.val (.ref a), .val (.ref nm), .val (.int fi), .val (.ref ar), .val (.int (2 : Int32)), .val (.double (4604930618986332160 : UInt64)), .second] [])
  refine Go.of (fun _ kz => XS.iinc X3.here hx rfl (hb hby own_c3_d118) rfl (l' := #[.val (.ref a), .val (.ref nm), .val (.int fi), .val (.ref ar), .val (.int (3 : Int32)), .val (.double (4604930618986332160 : UInt64)), .second]) rfl kz) ?_
  show Go p e below _ T3 (mkF m 121 #[.val (.ref a), .val (.ref nm), .val (.int fi), .val (.ref ar), .val (.int (3 : Int32)), .val (.double (4604930618986332160 : UInt64)), .second] [])
  refine Go.of (fun _ kz => XS.goto X3.here hx rfl (pc0 := 121) (pc' := 72) rfl (hb hby own_c3_d121) (by decide) (by decide) kz) ?_
  show Go p e below _ T3 (mkF m 72 #[.val (.ref a), .val (.ref nm), .val (.int fi), .val (.ref ar), .val (.int (3 : Int32)), .val (.double (4604930618986332160 : UInt64)), .second] [])
  refine Go.of (fun _ kz => XS.iload X3.here hx rfl (hb hby own_c3_d72) rfl kz) ?_
  show Go p e below _ T3 (mkF m 74 #[.val (.ref a), .val (.ref nm), .val (.int fi), .val (.ref ar), .val (.int (3 : Int32)), .val (.double (4604930618986332160 : UInt64)), .second] [(.int (3 : Int32))])
  refine Go.of (fun _ kz => XS.aloadN X3.here hx rfl (hb hby own_c3_d74) rfl rfl kz) ?_
  show Go p e below _ T3 (mkF m 75 #[.val (.ref a), .val (.ref nm), .val (.int fi), .val (.ref ar), .val (.int (3 : Int32)), .val (.double (4604930618986332160 : UInt64)), .second] [(.ref ar), (.int (3 : Int32))])
  refine Go.len X3 hx hZ e3 (VR.ext E2) (hb hby own_c3_d75) ?_
  show Go p e below _ T3 (mkF m 76 #[.val (.ref a), .val (.ref nm), .val (.int fi), .val (.ref ar), .val (.int (3 : Int32)), .val (.double (4604930618986332160 : UInt64)), .second] [(.int (3 : Int32)), (.int (3 : Int32))])
  refine Go.of (fun _ kz => XS.icmpYes X3.here hx rfl (pc0 := 76) (pc' := 124) rfl (hb hby own_c3_d76) rfl (flt (by decide : ¬ ((3 : Int32) < (3 : Int32)))).2.1 (by decide) (by decide) kz) ?_
  show Go p e below _ T3 (mkF m 124 #[.val (.ref a), .val (.ref nm), .val (.int fi), .val (.ref ar), .val (.int (3 : Int32)), .val (.double (4604930618986332160 : UInt64)), .second] [])
  refine Go.of (fun _ kz => XS.aloadN X3.here hx rfl (hb hby own_c3_d124) rfl rfl kz) ?_
  show Go p e below _ T3 (mkF m 125 #[.val (.ref a), .val (.ref nm), .val (.int fi), .val (.ref ar), .val (.int (3 : Int32)), .val (.double (4604930618986332160 : UInt64)), .second] [(.ref a)])
  refine Go.of (fun _ kz => XS.aloadN X3.here hx rfl (hb hby own_c3_d125) rfl rfl kz) ?_
  show Go p e below _ T3 (mkF m 126 #[.val (.ref a), .val (.ref nm), .val (.int fi), .val (.ref ar), .val (.int (3 : Int32)), .val (.double (4604930618986332160 : UInt64)), .second] [(.ref nm), (.ref a)])
  refine Go.putf X3 hx hZ hown (hw _ (List.mem_of_getElem? (i := 32) rfl)) Via.refl e3 (F_name.ext E2) (EA.ext E2) (Or.inr ⟨(hw _ (List.mem_of_getElem? (i := 33) rfl)), rfl, hnm⟩) (hw _ (List.mem_of_getElem? (i := 10) rfl)) (ty := (.object "java/lang/String")) (by decide) rfl rfl (hb hby own_c3_d126) fun T4 h4 X4 e4 W4 F4 A4 => ?_
  have sz4 : n0 ≤ h4.size := Nat.le_trans sz2 (Keep.of_wr W4).1
  have hk4 : k2 ≤ h4.size := Nat.le_trans hk2 (Keep.of_wr W4).1
  have kp4 : Keep h0 h4 [a] := kp2.wr W4 (Or.inl (List.mem_of_getElem? (i := 0) rfl))
  have N4 := Fr.snoc X4 (Fr.nil n0) ga
  show Go p e below _ T4 (mkF m 129 #[.val (.ref a), .val (.ref nm), .val (.int fi), .val (.ref ar), .val (.int (3 : Int32)), .val (.double (4604930618986332160 : UInt64)), .second] [])
  refine Go.of (fun _ kz => XS.aloadN X4.here hx rfl (hb hby own_c3_d129) rfl rfl kz) ?_
  show Go p e below _ T4 (mkF m 130 #[.val (.ref a), .val (.ref nm), .val (.int fi), .val (.ref ar), .val (.int (3 : Int32)), .val (.double (4604930618986332160 : UInt64)), .second] [(.ref a)])
  refine Go.of (fun _ kz => XS.iloadN X4.here hx rfl (hb hby own_c3_d130) rfl kz) ?_
  show Go p e below _ T4 (mkF m 131 #[.val (.ref a), .val (.ref nm), .val (.int fi), .val (.ref ar), .val (.int (3 : Int32)), .val (.double (4604930618986332160 : UInt64)), .second] [(.int fi), (.ref a)])
  refine Go.putf X4 hx hZ hown (hw _ (List.mem_of_getElem? (i := 34) rfl)) Via.refl e4 ((F_minimumAge.ext E2).other W4 (Or.inr (slot_ne (Or.inr (hw _ (List.mem_of_getElem? (i := 35) rfl))) (Or.inr (hw _ (List.mem_of_getElem? (i := 33) rfl))) (by decide) (t := .int) (t' := (.object "java/lang/String")) (by decide) (by decide)))) A4 (Or.inr ⟨(hw _ (List.mem_of_getElem? (i := 35) rfl)), rfl, hnm⟩) (hw _ (List.mem_of_getElem? (i := 10) rfl)) (ty := .int) (by decide) rfl rfl (hb hby own_c3_d131) fun T5 h5 X5 e5 W5 F5 A5 => ?_
  have sz5 : n0 ≤ h5.size := Nat.le_trans sz4 (Keep.of_wr W5).1
  have hk5 : k2 ≤ h5.size := Nat.le_trans hk4 (Keep.of_wr W5).1
  have kp5 : Keep h0 h5 [a] := kp4.wr W5 (Or.inl (List.mem_of_getElem? (i := 0) rfl))
  have N5 := Fr.snoc X5 N4 ga
  show Go p e below _ T5 (mkF m 134 #[.val (.ref a), .val (.ref nm), .val (.int fi), .val (.ref ar), .val (.int (3 : Int32)), .val (.double (4604930618986332160 : UInt64)), .second] [])
  refine Go.of (fun _ kz => XS.aloadN X5.here hx rfl (hb hby own_c3_d134) rfl rfl kz) ?_
  show Go p e below _ T5 (mkF m 135 #[.val (.ref a), .val (.ref nm), .val (.int fi), .val (.ref ar), .val (.int (3 : Int32)), .val (.double (4604930618986332160 : UInt64)), .second] [(.ref a)])
  refine Go.of (fun _ kz => XS.aloadN X5.here hx rfl (hb hby own_c3_d135) rfl rfl kz) ?_
  show Go p e below _ T5 (mkF m 136 #[.val (.ref a), .val (.ref nm), .val (.int fi), .val (.ref ar), .val (.int (3 : Int32)), .val (.double (4604930618986332160 : UInt64)), .second] [(.ref ar), (.ref a)])
  refine Go.clone X5 hx hZ hown (hw _ (List.mem_of_getElem? (i := 36) rfl)) (hw _ (List.mem_of_getElem? (i := 37) rfl)) (hw _ (List.mem_of_getElem? (i := 41) rfl)) (hw _ (List.mem_of_getElem? (i := 39) rfl)) (hw _ (List.mem_of_getElem? (i := 40) rfl)) (hw _ (List.mem_of_getElem? (i := 42) rfl)) e5 (((VR.ext E2).other W4 hne).other W5 hne) (((ER.ext E2).wr W4).wr W5) (by rw [hml]; rfl) (hb hby own_c3_d136) (by decide) (W := 1) (cap := 3) (Nat.le_of_eq rfl) (by decide) (by decide) (by decide) (by decide) fun T6 h6 b6 g6 X6 e6 E6 V6 A6 => ?_
  have lt_a_b6 : a < b6 := Nat.lt_of_lt_of_le A5.lt (Nat.le_of_eq g6.symm)
  have lt_ar_b6 : ar < b6 := Nat.lt_of_lt_of_le (((ER.ext E2).wr W4).wr W5).lt (Nat.le_of_eq g6.symm)
  have ge_b6 : n0 ≤ b6 := g6 ▸ sz5
  have hs_b6 : h0.size ≤ b6 := g6 ▸ kp5.1
  have sz6 : n0 ≤ h6.size := Nat.le_trans sz5 E6.1
  have hk6 : k2 ≤ h6.size := Nat.le_trans hk5 E6.1
  have kp6 : Keep h0 h6 [a] := kp5.ext E6
  show Go p e below _ T6 (mkF m 139 #[.val (.ref a), .val (.ref nm), .val (.int fi), .val (.ref ar), .val (.int (3 : Int32)), .val (.double (4604930618986332160 : UInt64)), .second] [(.ref b6), (.ref a)])
  refine Go.castTo X6 hx hZ hown (hw _ (List.mem_of_getElem? (i := 43) rfl)) e6 (Ins.self A6) (hb hby own_c3_d139) fun T7 X7 e7 => ?_
  show Go p e below _ T7 (mkF m 142 #[.val (.ref a), .val (.ref nm), .val (.int fi), .val (.ref ar), .val (.int (3 : Int32)), .val (.double (4604930618986332160 : UInt64)), .second] [(.ref b6), (.ref a)])
  refine Go.putf X7 hx hZ hown (hw _ (List.mem_of_getElem? (i := 45) rfl)) Via.refl e7 ((((F_rates.ext E2).other W4 (Or.inr (slot_ne (Or.inr (hw _ (List.mem_of_getElem? (i := 46) rfl))) (Or.inr (hw _ (List.mem_of_getElem? (i := 33) rfl))) (by decide) (t := (.array .double)) (t' := (.object "java/lang/String")) (by decide) (by decide)))).other W5 (Or.inr (slot_ne (Or.inr (hw _ (List.mem_of_getElem? (i := 46) rfl))) (Or.inr (hw _ (List.mem_of_getElem? (i := 35) rfl))) (by decide) (t := (.array .double)) (t' := .int) (by decide) (by decide)))).ext E6) (A5.ext E6) (Or.inr ⟨(hw _ (List.mem_of_getElem? (i := 46) rfl)), rfl, hnm⟩) (hw _ (List.mem_of_getElem? (i := 10) rfl)) (ty := (.array .double)) (by decide) rfl rfl (hb hby own_c3_d142) fun T8 h8 X8 e8 W8 F8 A8 => ?_
  have sz8 : n0 ≤ h8.size := Nat.le_trans sz6 (Keep.of_wr W8).1
  have hk8 : k2 ≤ h8.size := Nat.le_trans hk6 (Keep.of_wr W8).1
  have kp8 : Keep h0 h8 [a] := kp6.wr W8 (Or.inl (List.mem_of_getElem? (i := 0) rfl))
  have N8 := Fr.snoc X8 N5 ga
  show Go p e below _ T8 (mkF m 145 #[.val (.ref a), .val (.ref nm), .val (.int fi), .val (.ref ar), .val (.int (3 : Int32)), .val (.double (4604930618986332160 : UInt64)), .second] [])
  exact Go.retVW X8 hx hS (by rw [e8]; exact hk8) hlk hret (hb hby own_c3_d145) (by decide) (by decide) (by rw [e8]; exact ⟨rfl, N8, kp8, A8, ((F5.ext E6).other W8 (Or.inr (slot_ne (Or.inr (hw _ (List.mem_of_getElem? (i := 35) rfl))) (Or.inr (hw _ (List.mem_of_getElem? (i := 46) rfl))) (by decide) (t := .int) (t' := (.array .double)) (by decide) (by decide)))), b6, kr, F8, hs_b6, (V6.other W8 (Nat.ne_of_gt lt_a_b6))⟩)
theorem own_c4_d0 : decode prog_6_method_1_code 0 = .ok (.aload_n 0, 1) := by decide +kernel
theorem own_c4_d1 : decode prog_6_method_1_code 1 = .ok (.invokespecial 1, 3) := by decide +kernel
theorem own_c4_d4 : decode prog_6_method_1_code 4 = .ok (.aload_n 1, 1) := by decide +kernel
theorem own_c4_d5 : decode prog_6_method_1_code 5 = .ok (.ldc 7, 2) := by decide +kernel
theorem own_c4_d7 : decode prog_6_method_1_code 7 = .ok (.invokestatic 9, 3) := by decide +kernel
theorem own_c4_d10 : decode prog_6_method_1_code 10 = .ok (.pop, 1) := by decide +kernel
theorem own_c4_d11 : decode prog_6_method_1_code 11 = .ok (.iload_n 2, 1) := by decide +kernel
theorem own_c4_d12 : decode prog_6_method_1_code 12 = .ok (.ifCond .ge 17, 3) := by decide +kernel
theorem own_c4_d29 : decode prog_6_method_1_code 29 = .ok (.aload_n 3, 1) := by decide +kernel
theorem own_c4_d30 : decode prog_6_method_1_code 30 = .ok (.arraylength, 1) := by decide +kernel
theorem own_c4_d31 : decode prog_6_method_1_code 31 = .ok (.ifCond .ne 13, 3) := by decide +kernel
theorem own_c4_d44 : decode prog_6_method_1_code 44 = .ok (.iload_n 2, 1) := by decide +kernel
theorem own_c4_d45 : decode prog_6_method_1_code 45 = .ok (.i2l, 1) := by decide +kernel
theorem own_c4_d46 : decode prog_6_method_1_code 46 = .ok (.aload_n 3, 1) := by decide +kernel
theorem own_c4_d47 : decode prog_6_method_1_code 47 = .ok (.arraylength, 1) := by decide +kernel
theorem own_c4_d48 : decode prog_6_method_1_code 48 = .ok (.i2l, 1) := by decide +kernel
theorem own_c4_d49 : decode prog_6_method_1_code 49 = .ok (.ladd, 1) := by decide +kernel
theorem own_c4_d50 : decode prog_6_method_1_code 50 = .ok (.lconst 1, 1) := by decide +kernel
theorem own_c4_d51 : decode prog_6_method_1_code 51 = .ok (.lsub, 1) := by decide +kernel
theorem own_c4_d52 : decode prog_6_method_1_code 52 = .ok (.ldc2_w 28, 3) := by decide +kernel
theorem own_c4_d55 : decode prog_6_method_1_code 55 = .ok (.lcmp, 1) := by decide +kernel
theorem own_c4_d56 : decode prog_6_method_1_code 56 = .ok (.ifCond .le 13, 3) := by decide +kernel
theorem own_c4_d69 : decode prog_6_method_1_code 69 = .ok (.iconst 0, 1) := by decide +kernel
theorem own_c4_d70 : decode prog_6_method_1_code 70 = .ok (.istore 4, 2) := by decide +kernel
theorem own_c4_d72 : decode prog_6_method_1_code 72 = .ok (.iload 4, 2) := by decide +kernel
theorem own_c4_d74 : decode prog_6_method_1_code 74 = .ok (.aload_n 3, 1) := by decide +kernel
theorem own_c4_d75 : decode prog_6_method_1_code 75 = .ok (.arraylength, 1) := by decide +kernel
theorem own_c4_d76 : decode prog_6_method_1_code 76 = .ok (.if_icmp .ge 48, 3) := by decide +kernel
theorem own_c4_d79 : decode prog_6_method_1_code 79 = .ok (.aload_n 3, 1) := by decide +kernel
theorem own_c4_d80 : decode prog_6_method_1_code 80 = .ok (.iload 4, 2) := by decide +kernel
theorem own_c4_d82 : decode prog_6_method_1_code 82 = .ok (.daload, 1) := by decide +kernel
theorem own_c4_d83 : decode prog_6_method_1_code 83 = .ok (.dstore 5, 2) := by decide +kernel
theorem own_c4_d85 : decode prog_6_method_1_code 85 = .ok (.dload 5, 2) := by decide +kernel
theorem own_c4_d87 : decode prog_6_method_1_code 87 = .ok (.dconst 0, 1) := by decide +kernel
theorem own_c4_d88 : decode prog_6_method_1_code 88 = .ok (.dcmp .l, 1) := by decide +kernel
theorem own_c4_d89 : decode prog_6_method_1_code 89 = .ok (.ifCond .lt 10, 3) := by decide +kernel
theorem own_c4_d92 : decode prog_6_method_1_code 92 = .ok (.dload 5, 2) := by decide +kernel
theorem own_c4_d94 : decode prog_6_method_1_code 94 = .ok (.dconst 1, 1) := by decide +kernel
theorem own_c4_d95 : decode prog_6_method_1_code 95 = .ok (.dcmp .g, 1) := by decide +kernel
theorem own_c4_d96 : decode prog_6_method_1_code 96 = .ok (.ifCond .le 22, 3) := by decide +kernel
theorem own_c4_d118 : decode prog_6_method_1_code 118 = .ok (.iinc 4 1, 3) := by decide +kernel
theorem own_c4_d121 : decode prog_6_method_1_code 121 = .ok (.goto (-49), 3) := by decide +kernel
theorem own_c4_d124 : decode prog_6_method_1_code 124 = .ok (.aload_n 0, 1) := by decide +kernel
theorem own_c4_d125 : decode prog_6_method_1_code 125 = .ok (.aload_n 1, 1) := by decide +kernel
theorem own_c4_d126 : decode prog_6_method_1_code 126 = .ok (.putfield 35, 3) := by decide +kernel
theorem own_c4_d129 : decode prog_6_method_1_code 129 = .ok (.aload_n 0, 1) := by decide +kernel
theorem own_c4_d130 : decode prog_6_method_1_code 130 = .ok (.iload_n 2, 1) := by decide +kernel
theorem own_c4_d131 : decode prog_6_method_1_code 131 = .ok (.putfield 40, 3) := by decide +kernel
theorem own_c4_d134 : decode prog_6_method_1_code 134 = .ok (.aload_n 0, 1) := by decide +kernel
theorem own_c4_d135 : decode prog_6_method_1_code 135 = .ok (.aload_n 3, 1) := by decide +kernel
theorem own_c4_d136 : decode prog_6_method_1_code 136 = .ok (.invokevirtual 44, 3) := by decide +kernel
theorem own_c4_d139 : decode prog_6_method_1_code 139 = .ok (.checkcast 45, 3) := by decide +kernel
theorem own_c4_d142 : decode prog_6_method_1_code 142 = .ok (.putfield 50, 3) := by decide +kernel
theorem own_c4_d145 : decode prog_6_method_1_code 145 = .ok (.return_, 1) := by decide +kernel
abbrev own_rmC4_Q (Z : State) (a nm : Addr) (fi : Int32) (ar : Addr) (kr : ClassId) (n0 : Nat) (h0 : Heap) : Option Value → Heap → List Loc → Prop := fun v h L => v = none ∧ Fr n0 L ∧ Keep h0 h [a] ∧ Exa Z h a "com/example/vestry/vestry/actuarial/MortalityTable" ∧ Fld Z h a "com/example/vestry/vestry/actuarial/MortalityTable" "minimumAge" "I" (.int fi) ∧ ∃ b kb, Fld Z h a "com/example/vestry/vestry/actuarial/MortalityTable" "rates" "[D" (.ref b) ∧ h0.size ≤ b ∧ Arv Z h b kb .double (4 : Int32) [(.double (4593671619917905920 : UInt64)), (.double (4607182418800017408 : UInt64)), (.double (4602678819172646912 : UInt64)), (.double (4600427019358961664 : UInt64))] (.double 0)
set_option maxRecDepth 65536 in
set_option maxHeartbeats 40000000 in
theorem own_rmC4 (l : Launch) (Z : State) (a0 : Array Value) (hw : ∀ d ∈ tables_1, d.before a0 Z = true) (a nm : Addr) (fi : Int32) (ar : Addr) (kr : ClassId) (n0 : Nat) (h0 : Heap) (Z0 : n0 ≤ h0.size) (ga : n0 ≤ a) (gar : n0 ≤ ar) (hne : ar ≠ a) (hp1 : ¬ fi < 0) (hp2 : ¬ (0 : Int32) < XS.cmpL ((fi.toInt64 + (4 : Int64)) - (1 : Int64)) (2147483647 : Int64)) (EA : Exa Z h0 a "com/example/vestry/vestry/actuarial/MortalityTable") (F_name : Fld Z h0 a "com/example/vestry/vestry/actuarial/MortalityTable" "name" "Ljava/lang/String;" .null) (F_minimumAge : Fld Z h0 a "com/example/vestry/vestry/actuarial/MortalityTable" "minimumAge" "I" (.int 0)) (F_rates : Fld Z h0 a "com/example/vestry/vestry/actuarial/MortalityTable" "rates" "[D" .null) (VR : Arv Z h0 ar kr .double (4 : Int32) [(.double (4593671619917905920 : UInt64)), (.double (4607182418800017408 : UInt64)), (.double (4602678819172646912 : UInt64)), (.double (4600427019358961664 : UInt64))] (.double 0)) (ER : Exa Z h0 ar "[D") :
    MetFree l (⟨"com/example/vestry/vestry/actuarial/MortalityTable", "<init>", "(Ljava/lang/String;I[D)V"⟩ : MethodName) (head1 [Jvm.Cond.code (⟨"com/example/vestry/vestry/actuarial/MortalityTable", "<init>", "(Ljava/lang/String;I[D)V"⟩ : MethodName) prog_6_method_1_code 7 none] ({ frames := 1, cells := 3, slots := 24, locals := 26 } : Room)) (fun aa U => aa = #[(.ref a), (.ref nm), (.int fi), (.ref ar)] ∧ Z.Warmed39 U.vm ∧ U.heap = h0) (fun _ _ _ _ _ => True) (fun _ U o U' => ∃ v L, o = .returned v ∧ ((own_rmC4_Q Z a nm fi ar kr n0 h0)) v U'.heap L ∧ ReturnedEndW U o U' L ({ frames := 1, cells := 3, slots := 24, locals := 26 } : Room).cells ({ frames := 1, cells := 3, slots := 24, locals := 26 } : Room).slots) := by
  refine goBodyW (y := (⟨"com/example/vestry/vestry/actuarial/MortalityTable", "<init>", "(Ljava/lang/String;I[D)V"⟩ : MethodName)) (Q := (own_rmC4_Q Z a nm fi ar kr n0 h0)) (plainFor_of_name (by first | (simp [plainName, overriddenIn]; done) | decide +kernel)) ?_
  intro p e s m below meth c T0 hx hZ hby hml hown hnm hret hlk X0 e0 hS
  have wS : ∀ d ∈ Bundle.stringAtoms, d.before a0 Z = true := fun d hd => by
    simp only [Bundle.stringAtoms, List.mem_cons, List.not_mem_nil, or_false] at hd
    rcases hd with rfl | rfl | rfl | rfl | rfl | rfl | rfl
    · exact (hw _ (List.mem_of_getElem? (i := 13) rfl))
    · exact (hw _ (List.mem_of_getElem? (i := 14) rfl))
    · exact (hw _ (List.mem_of_getElem? (i := 15) rfl))
    · exact (hw _ (List.mem_of_getElem? (i := 16) rfl))
    · exact (hw _ (List.mem_of_getElem? (i := 17) rfl))
    · exact (hw _ (List.mem_of_getElem? (i := 18) rfl))
    · exact (hw _ (List.mem_of_getElem? (i := 19) rfl))
  have hk : 0 ≤ h0.size := Nat.zero_le _
  have hown : s.vm.findClass "com/example/vestry/vestry/actuarial/MortalityTable" = some m.cls := hown
  refine Go.cast (g' := mkF m 0 #[.val (.ref a), .val (.ref nm), .val (.int fi), .val (.ref ar), .unset, .unset, .unset] []) (by first | (simp [entryFrame, mkF, argsToLocals, Value.category]; done) | rfl) ?_
  show Go p e below _ T0 (mkF m 0 #[.val (.ref a), .val (.ref nm), .val (.int fi), .val (.ref ar), .unset, .unset, .unset] [])
  refine Go.of (fun _ kz => XS.aloadN X0.here hx rfl (hb hby own_c4_d0) rfl rfl kz) ?_
  show Go p e below _ T0 (mkF m 1 #[.val (.ref a), .val (.ref nm), .val (.int fi), .val (.ref ar), .unset, .unset, .unset] [(.ref a)])
  refine Go.initObj X0 hx hZ hown (hw _ (List.mem_of_getElem? (i := 23) rfl)) (hw _ (List.mem_of_getElem? (i := 24) rfl)) (hw _ (List.mem_of_getElem? (i := 25) rfl)) e0 (by rw [hml]; rfl) (hb hby own_c4_d1) (by decide) (W := 0) (Nat.le_of_eq rfl) (by decide) fun T1 X1 e1 => ?_
  show Go p e below _ T1 (mkF m 4 #[.val (.ref a), .val (.ref nm), .val (.int fi), .val (.ref ar), .unset, .unset, .unset] [])
  refine Go.of (fun _ kz => XS.aloadN X1.here hx rfl (hb hby own_c4_d4) rfl rfl kz) ?_
  show Go p e below _ T1 (mkF m 5 #[.val (.ref a), .val (.ref nm), .val (.int fi), .val (.ref ar), .unset, .unset, .unset] [(.ref nm)])
  refine Go.ldcS X1 hx hZ hown (hw _ (List.mem_of_getElem? (i := 26) rfl)) wS e1 hS hk (hb hby own_c4_d5) 16 (by decide) (by decide) (by decide) (by decide) fun b2 T2 h2 k2 X2 e2 E2 hS hk2 hZ hown => ?_
  have sz2 : n0 ≤ h2.size := Nat.le_trans Z0 E2.1
  have kp2 : Keep h0 h2 [a] := (Keep.refl h0 [a]).ext E2
  show Go p e below _ T2 (mkF m 7 #[.val (.ref a), .val (.ref nm), .val (.int fi), .val (.ref ar), .unset, .unset, .unset] [(.ref b2), (.ref nm)])
  refine Go.callSP (W := 0) (y := (⟨"java/util/Objects", "requireNonNull", "(Ljava/lang/Object;Ljava/lang/String;)Ljava/lang/Object;"⟩ : MethodName)) (argsL := [(.ref nm), (.ref b2)]) (rest := []) (r := some (.ref nm)) X2 hx hZ hown (hw _ (List.mem_of_getElem? (i := 27) rfl)) (hw _ (List.mem_of_getElem? (i := 28) rfl)) (hw _ (List.mem_of_getElem? (i := 29) rfl)) (hw _ (List.mem_of_getElem? (i := 30) rfl)) (by decide) (own_rmQ l Z a0 hw nm b2 h2) e2 (by rw [hml]; rfl) (lenOf own_dsc0 rfl) (hb hby own_c4_d7) rfl (Nat.le_of_eq rfl) (by decide) (by decide) (by decide) (by decide) fun T3 X3 e3 => ?_
  show Go p e below _ T3 (mkF m 10 #[.val (.ref a), .val (.ref nm), .val (.int fi), .val (.ref ar), .unset, .unset, .unset] [(.ref nm)])
  refine Go.of (fun _ kz => XS.pop X3.here hx rfl (hb hby own_c4_d10) rfl rfl kz) ?_
  show Go p e below _ T3 (mkF m 11 #[.val (.ref a), .val (.ref nm), .val (.int fi), .val (.ref ar), .unset, .unset, .unset] [])
  refine Go.of (fun _ kz => XS.iloadN X3.here hx rfl (hb hby own_c4_d11) rfl kz) ?_
  show Go p e below _ T3 (mkF m 12 #[.val (.ref a), .val (.ref nm), .val (.int fi), .val (.ref ar), .unset, .unset, .unset] [(.int fi)])
  refine Go.of (fun _ kz => XS.ifYes X3.here hx rfl (pc0 := 12) (pc' := 29) rfl (hb hby own_c4_d12) rfl ((if0 _ _).trans (flt hp1).2.1) (by decide) (by decide) kz) ?_
  show Go p e below _ T3 (mkF m 29 #[.val (.ref a), .val (.ref nm), .val (.int fi), .val (.ref ar), .unset, .unset, .unset] [])
  refine Go.of (fun _ kz => XS.aloadN X3.here hx rfl (hb hby own_c4_d29) rfl rfl kz) ?_
  show Go p e below _ T3 (mkF m 30 #[.val (.ref a), .val (.ref nm), .val (.int fi), .val (.ref ar), .unset, .unset, .unset] [(.ref ar)])
  refine Go.len X3 hx hZ e3 (VR.ext E2) (hb hby own_c4_d30) ?_
  show Go p e below _ T3 (mkF m 31 #[.val (.ref a), .val (.ref nm), .val (.int fi), .val (.ref ar), .unset, .unset, .unset] [(.int (4 : Int32))])
  refine Go.of (fun _ kz => XS.ifYes X3.here hx rfl (pc0 := 31) (pc' := 44) rfl (hb hby own_c4_d31) rfl ((if0 _ _).trans (feq (by decide : ¬ ((4 : Int32) = (0 : Int32)))).2) (by decide) (by decide) kz) ?_
  show Go p e below _ T3 (mkF m 44 #[.val (.ref a), .val (.ref nm), .val (.int fi), .val (.ref ar), .unset, .unset, .unset] [])
  refine Go.of (fun _ kz => XS.iloadN X3.here hx rfl (hb hby own_c4_d44) rfl kz) ?_
  show Go p e below _ T3 (mkF m 45 #[.val (.ref a), .val (.ref nm), .val (.int fi), .val (.ref ar), .unset, .unset, .unset] [(.int fi)])
  refine Go.of (fun _ kz => XS.i2l X3.here hx rfl (hb hby own_c4_d45) rfl kz) ?_
  show Go p e below _ T3 (mkF m 46 #[.val (.ref a), .val (.ref nm), .val (.int fi), .val (.ref ar), .unset, .unset, .unset] [(.long (fi.toInt64))])
  refine Go.of (fun _ kz => XS.aloadN X3.here hx rfl (hb hby own_c4_d46) rfl rfl kz) ?_
  show Go p e below _ T3 (mkF m 47 #[.val (.ref a), .val (.ref nm), .val (.int fi), .val (.ref ar), .unset, .unset, .unset] [(.ref ar), (.long (fi.toInt64))])
  refine Go.len X3 hx hZ e3 (VR.ext E2) (hb hby own_c4_d47) ?_
  show Go p e below _ T3 (mkF m 48 #[.val (.ref a), .val (.ref nm), .val (.int fi), .val (.ref ar), .unset, .unset, .unset] [(.int (4 : Int32)), (.long (fi.toInt64))])
  refine Go.of (fun _ kz => XS.i2l X3.here hx rfl (hb hby own_c4_d48) rfl kz) ?_
  show Go p e below _ T3 (mkF m 49 #[.val (.ref a), .val (.ref nm), .val (.int fi), .val (.ref ar), .unset, .unset, .unset] [(.long (4 : Int64)), (.long (fi.toInt64))])
  refine Go.of (fun _ kz => XS.ladd X3.here hx rfl (hb hby own_c4_d49) rfl kz) ?_
  show Go p e below _ T3 (mkF m 50 #[.val (.ref a), .val (.ref nm), .val (.int fi), .val (.ref ar), .unset, .unset, .unset] [(.long ((fi.toInt64) + (4 : Int64)))])
  refine Go.of (fun _ kz => XS.lconst X3.here hx rfl (hb hby own_c4_d50) kz) ?_
  show Go p e below _ T3 (mkF m 51 #[.val (.ref a), .val (.ref nm), .val (.int fi), .val (.ref ar), .unset, .unset, .unset] [(.long (1 : Int64)), (.long ((fi.toInt64) + (4 : Int64)))])
  refine Go.of (fun _ kz => XS.lsub X3.here hx rfl (hb hby own_c4_d51) rfl kz) ?_
  show Go p e below _ T3 (mkF m 52 #[.val (.ref a), .val (.ref nm), .val (.int fi), .val (.ref ar), .unset, .unset, .unset] [(.long (((fi.toInt64) + (4 : Int64)) - (1 : Int64)))])
  refine Go.of (X3.ldc2Long hx hown (mvT hZ (hw _ (List.mem_of_getElem? (i := 31) rfl))) (g := (mkF m 52 #[.val (.ref a), .val (.ref nm), .val (.int fi), .val (.ref ar), .unset, .unset, .unset] [(.long (((fi.toInt64) + (4 : Int64)) - (1 : Int64)))])) rfl (hb hby own_c4_d52)) ?_
  show Go p e below _ T3 (mkF m 55 #[.val (.ref a), .val (.ref nm), .val (.int fi), .val (.ref ar), .unset, .unset, .unset] [(.long (2147483647 : Int64)), (.long (((fi.toInt64) + (4 : Int64)) - (1 : Int64)))])
  refine Go.of (fun _ kz => XS.lcmp X3.here hx rfl (hb hby own_c4_d55) rfl kz) ?_
  show Go p e below _ T3 (mkF m 56 #[.val (.ref a), .val (.ref nm), .val (.int fi), .val (.ref ar), .unset, .unset, .unset] [(.int (XS.cmpL (((fi.toInt64) + (4 : Int64)) - (1 : Int64)) (2147483647 : Int64)))])
  refine Go.of (fun _ kz => XS.ifYes X3.here hx rfl (pc0 := 56) (pc' := 69) rfl (hb hby own_c4_d56) rfl ((if0 _ _).trans (flt hp2).2.2.2) (by decide) (by decide) kz) ?_
  show Go p e below _ T3 (mkF m 69 #[.val (.ref a), .val (.ref nm), .val (.int fi), .val (.ref ar), .unset, .unset, .unset] [])
  refine Go.of (fun _ kz => XS.iconst X3.here hx rfl (hb hby own_c4_d69) kz) ?_
  show Go p e below _ T3 (mkF m 70 #[.val (.ref a), .val (.ref nm), .val (.int fi), .val (.ref ar), .unset, .unset, .unset] [(.int (0 : Int32))])
  refine Go.of (fun _ kz => XS.istore X3.here hx rfl (hb hby own_c4_d70) rfl (l' := #[.val (.ref a), .val (.ref nm), .val (.int fi), .val (.ref ar), .val (.int (0 : Int32)), .unset, .unset]) rfl kz) ?_
  show Go p e below _ T3 (mkF m 72 #[.val (.ref a), .val (.ref nm), .val (.int fi), .val (.ref ar), .val (.int (0 : Int32)), .unset, .unset] [])
  refine Go.of (fun _ kz => XS.iload X3.here hx rfl (hb hby own_c4_d72) rfl kz) ?_
  show Go p e below _ T3 (mkF m 74 #[.val (.ref a), .val (.ref nm), .val (.int fi), .val (.ref ar), .val (.int (0 : Int32)), .unset, .unset] [(.int (0 : Int32))])
  refine Go.of (fun _ kz => XS.aloadN X3.here hx rfl (hb hby own_c4_d74) rfl rfl kz) ?_
  show Go p e below _ T3 (mkF m 75 #[.val (.ref a), .val (.ref nm), .val (.int fi), .val (.ref ar), .val (.int (0 : Int32)), .unset, .unset] [(.ref ar), (.int (0 : Int32))])
  refine Go.len X3 hx hZ e3 (VR.ext E2) (hb hby own_c4_d75) ?_
  show Go p e below _ T3 (mkF m 76 #[.val (.ref a), .val (.ref nm), .val (.int fi), .val (.ref ar), .val (.int (0 : Int32)), .unset, .unset] [(.int (4 : Int32)), (.int (0 : Int32))])
  refine Go.of (fun _ kz => XS.icmpNo X3.here hx rfl (hb hby own_c4_d76) rfl (tlt (by decide : (0 : Int32) < (4 : Int32))).2.1 kz) ?_
  show Go p e below _ T3 (mkF m 79 #[.val (.ref a), .val (.ref nm), .val (.int fi), .val (.ref ar), .val (.int (0 : Int32)), .unset, .unset] [])
  refine Go.of (fun _ kz => XS.aloadN X3.here hx rfl (hb hby own_c4_d79) rfl rfl kz) ?_
  show Go p e below _ T3 (mkF m 80 #[.val (.ref a), .val (.ref nm), .val (.int fi), .val (.ref ar), .val (.int (0 : Int32)), .unset, .unset] [(.ref ar)])
  refine Go.of (fun _ kz => XS.iload X3.here hx rfl (hb hby own_c4_d80) rfl kz) ?_
  show Go p e below _ T3 (mkF m 82 #[.val (.ref a), .val (.ref nm), .val (.int fi), .val (.ref ar), .val (.int (0 : Int32)), .unset, .unset] [(.int (0 : Int32)), (.ref ar)])
  refine Go.daload X3 hx hZ e3 (VR.ext E2) ⟨by decide, by decide⟩ (v := (.double (4593671619917905920 : UInt64))) rfl (hb hby own_c4_d82) ?_
  show Go p e below _ T3 (mkF m 83 #[.val (.ref a), .val (.ref nm), .val (.int fi), .val (.ref ar), .val (.int (0 : Int32)), .unset, .unset] [(.double (4593671619917905920 : UInt64))])
  refine Go.of (fun _ kz => XS.dstore X3.here hx rfl (hb hby own_c4_d83) rfl (l' := #[.val (.ref a), .val (.ref nm), .val (.int fi), .val (.ref ar), .val (.int (0 : Int32)), .val (.double (4593671619917905920 : UInt64)), .second]) rfl kz) ?_
  show Go p e below _ T3 (mkF m 85 #[.val (.ref a), .val (.ref nm), .val (.int fi), .val (.ref ar), .val (.int (0 : Int32)), .val (.double (4593671619917905920 : UInt64)), .second] [])
  refine Go.of (fun _ kz => XS.dload X3.here hx rfl (hb hby own_c4_d85) rfl kz) ?_
  show Go p e below _ T3 (mkF m 87 #[.val (.ref a), .val (.ref nm), .val (.int fi), .val (.ref ar), .val (.int (0 : Int32)), .val (.double (4593671619917905920 : UInt64)), .second] [(.double (4593671619917905920 : UInt64))])
  refine Go.of (fun _ kz => XS.dconst0 X3.here hx rfl (hb hby own_c4_d87) (v := 0) (by decide +kernel) kz) ?_
  show Go p e below _ T3 (mkF m 88 #[.val (.ref a), .val (.ref nm), .val (.int fi), .val (.ref ar), .val (.int (0 : Int32)), .val (.double (4593671619917905920 : UInt64)), .second] [(.double (0 : UInt64)), (.double (4593671619917905920 : UInt64))])
  refine Go.of (fun _ kz => XS.dcmpS X3.here hx rfl (hb hby own_c4_d88) rfl rfl kz) ?_
  show Go p e below _ T3 (mkF m 89 #[.val (.ref a), .val (.ref nm), .val (.int fi), .val (.ref ar), .val (.int (0 : Int32)), .val (.double (4593671619917905920 : UInt64)), .second] [(.int (cmpValue (FP.dcmp (4593671619917905920 : UInt64) (0 : UInt64)) .l))])
  refine Go.of (fun _ kz => XS.ifNo X3.here hx rfl (hb hby own_c4_d89) rfl ((if0 _ _).trans (flt (by decide +kernel : ¬ (cmpValue (FP.dcmp (4593671619917905920 : UInt64) (0 : UInt64)) .l) < (0 : Int32))).1) kz) ?_
  show Go p e below _ T3 (mkF m 92 #[.val (.ref a), .val (.ref nm), .val (.int fi), .val (.ref ar), .val (.int (0 : Int32)), .val (.double (4593671619917905920 : UInt64)), .second] [])
  refine Go.of (fun _ kz => XS.dload X3.here hx rfl (hb hby own_c4_d92) rfl kz) ?_
  show Go p e below _ T3 (mkF m 94 #[.val (.ref a), .val (.ref nm), .val (.int fi), .val (.ref ar), .val (.int (0 : Int32)), .val (.double (4593671619917905920 : UInt64)), .second] [(.double (4593671619917905920 : UInt64))])
  refine Go.of (fun _ kz => XS.dconst1 X3.here hx rfl (hb hby own_c4_d94) (v := 4607182418800017408) (by decide +kernel) kz) ?_
  show Go p e below _ T3 (mkF m 95 #[.val (.ref a), .val (.ref nm), .val (.int fi), .val (.ref ar), .val (.int (0 : Int32)), .val (.double (4593671619917905920 : UInt64)), .second] [(.double (4607182418800017408 : UInt64)), (.double (4593671619917905920 : UInt64))])
  refine Go.of (fun _ kz => XS.dcmpS X3.here hx rfl (hb hby own_c4_d95) rfl rfl kz) ?_
  show Go p e below _ T3 (mkF m 96 #[.val (.ref a), .val (.ref nm), .val (.int fi), .val (.ref ar), .val (.int (0 : Int32)), .val (.double (4593671619917905920 : UInt64)), .second] [(.int (cmpValue (FP.dcmp (4593671619917905920 : UInt64) (4607182418800017408 : UInt64)) .g))])
  refine Go.of (fun _ kz => XS.ifYes X3.here hx rfl (pc0 := 96) (pc' := 118) rfl (hb hby own_c4_d96) rfl ((if0 _ _).trans (flt (by decide +kernel : ¬ (0 : Int32) < (cmpValue (FP.dcmp (4593671619917905920 : UInt64) (4607182418800017408 : UInt64)) .g))).2.2.2) (by decide) (by decide) kz) ?_
  show Go p e below _ T3 (mkF m 118 #[.val (.ref a), .val (.ref nm), .val (.int fi), .val (.ref ar), .val (.int (0 : Int32)), .val (.double (4593671619917905920 : UInt64)), .second] [])
  refine Go.of (fun _ kz => XS.iinc X3.here hx rfl (hb hby own_c4_d118) rfl (l' := #[.val (.ref a), .val (.ref nm), .val (.int fi), .val (.ref ar), .val (.int (1 : Int32)), .val (.double (4593671619917905920 : UInt64)), .second]) rfl kz) ?_
  show Go p e below _ T3 (mkF m 121 #[.val (.ref a), .val (.ref nm), .val (.int fi), .val (.ref ar), .val (.int (1 : Int32)), .val (.double (4593671619917905920 : UInt64)), .second] [])
  refine Go.of (fun _ kz => XS.goto X3.here hx rfl (pc0 := 121) (pc' := 72) rfl (hb hby own_c4_d121) (by decide) (by decide) kz) ?_
  show Go p e below _ T3 (mkF m 72 #[.val (.ref a), .val (.ref nm), .val (.int fi), .val (.ref ar), .val (.int (1 : Int32)), .val (.double (4593671619917905920 : UInt64)), .second] [])
  refine Go.of (fun _ kz => XS.iload X3.here hx rfl (hb hby own_c4_d72) rfl kz) ?_
  show Go p e below _ T3 (mkF m 74 #[.val (.ref a), .val (.ref nm), .val (.int fi), .val (.ref ar), .val (.int (1 : Int32)), .val (.double (4593671619917905920 : UInt64)), .second] [(.int (1 : Int32))])
  refine Go.of (fun _ kz => XS.aloadN X3.here hx rfl (hb hby own_c4_d74) rfl rfl kz) ?_
  show Go p e below _ T3 (mkF m 75 #[.val (.ref a), .val (.ref nm), .val (.int fi), .val (.ref ar), .val (.int (1 : Int32)), .val (.double (4593671619917905920 : UInt64)), .second] [(.ref ar), (.int (1 : Int32))])
  refine Go.len X3 hx hZ e3 (VR.ext E2) (hb hby own_c4_d75) ?_
  show Go p e below _ T3 (mkF m 76 #[.val (.ref a), .val (.ref nm), .val (.int fi), .val (.ref ar), .val (.int (1 : Int32)), .val (.double (4593671619917905920 : UInt64)), .second] [(.int (4 : Int32)), (.int (1 : Int32))])
  refine Go.of (fun _ kz => XS.icmpNo X3.here hx rfl (hb hby own_c4_d76) rfl (tlt (by decide : (1 : Int32) < (4 : Int32))).2.1 kz) ?_
  show Go p e below _ T3 (mkF m 79 #[.val (.ref a), .val (.ref nm), .val (.int fi), .val (.ref ar), .val (.int (1 : Int32)), .val (.double (4593671619917905920 : UInt64)), .second] [])
  refine Go.of (fun _ kz => XS.aloadN X3.here hx rfl (hb hby own_c4_d79) rfl rfl kz) ?_
  show Go p e below _ T3 (mkF m 80 #[.val (.ref a), .val (.ref nm), .val (.int fi), .val (.ref ar), .val (.int (1 : Int32)), .val (.double (4593671619917905920 : UInt64)), .second] [(.ref ar)])
  refine Go.of (fun _ kz => XS.iload X3.here hx rfl (hb hby own_c4_d80) rfl kz) ?_
  show Go p e below _ T3 (mkF m 82 #[.val (.ref a), .val (.ref nm), .val (.int fi), .val (.ref ar), .val (.int (1 : Int32)), .val (.double (4593671619917905920 : UInt64)), .second] [(.int (1 : Int32)), (.ref ar)])
  refine Go.daload X3 hx hZ e3 (VR.ext E2) ⟨by decide, by decide⟩ (v := (.double (4607182418800017408 : UInt64))) rfl (hb hby own_c4_d82) ?_
  show Go p e below _ T3 (mkF m 83 #[.val (.ref a), .val (.ref nm), .val (.int fi), .val (.ref ar), .val (.int (1 : Int32)), .val (.double (4593671619917905920 : UInt64)), .second] [(.double (4607182418800017408 : UInt64))])
  refine Go.of (fun _ kz => XS.dstore X3.here hx rfl (hb hby own_c4_d83) rfl (l' := #[.val (.ref a), .val (.ref nm), .val (.int fi), .val (.ref ar), .val (.int (1 : Int32)), .val (.double (4607182418800017408 : UInt64)), .second]) rfl kz) ?_
  show Go p e below _ T3 (mkF m 85 #[.val (.ref a), .val (.ref nm), .val (.int fi), .val (.ref ar), .val (.int (1 : Int32)), .val (.double (4607182418800017408 : UInt64)), .second] [])
  refine Go.of (fun _ kz => XS.dload X3.here hx rfl (hb hby own_c4_d85) rfl kz) ?_
  show Go p e below _ T3 (mkF m 87 #[.val (.ref a), .val (.ref nm), .val (.int fi), .val (.ref ar), .val (.int (1 : Int32)), .val (.double (4607182418800017408 : UInt64)), .second] [(.double (4607182418800017408 : UInt64))])
  refine Go.of (fun _ kz => XS.dconst0 X3.here hx rfl (hb hby own_c4_d87) (v := 0) (by decide +kernel) kz) ?_
  show Go p e below _ T3 (mkF m 88 #[.val (.ref a), .val (.ref nm), .val (.int fi), .val (.ref ar), .val (.int (1 : Int32)), .val (.double (4607182418800017408 : UInt64)), .second] [(.double (0 : UInt64)), (.double (4607182418800017408 : UInt64))])
  refine Go.of (fun _ kz => XS.dcmpS X3.here hx rfl (hb hby own_c4_d88) rfl rfl kz) ?_
  show Go p e below _ T3 (mkF m 89 #[.val (.ref a), .val (.ref nm), .val (.int fi), .val (.ref ar), .val (.int (1 : Int32)), .val (.double (4607182418800017408 : UInt64)), .second] [(.int (cmpValue (FP.dcmp (4607182418800017408 : UInt64) (0 : UInt64)) .l))])
  refine Go.of (fun _ kz => XS.ifNo X3.here hx rfl (hb hby own_c4_d89) rfl ((if0 _ _).trans (flt (by decide +kernel : ¬ (cmpValue (FP.dcmp (4607182418800017408 : UInt64) (0 : UInt64)) .l) < (0 : Int32))).1) kz) ?_
  show Go p e below _ T3 (mkF m 92 #[.val (.ref a), .val (.ref nm), .val (.int fi), .val (.ref ar), .val (.int (1 : Int32)), .val (.double (4607182418800017408 : UInt64)), .second] [])
  refine Go.of (fun _ kz => XS.dload X3.here hx rfl (hb hby own_c4_d92) rfl kz) ?_
  show Go p e below _ T3 (mkF m 94 #[.val (.ref a), .val (.ref nm), .val (.int fi), .val (.ref ar), .val (.int (1 : Int32)), .val (.double (4607182418800017408 : UInt64)), .second] [(.double (4607182418800017408 : UInt64))])
  refine Go.of (fun _ kz => XS.dconst1 X3.here hx rfl (hb hby own_c4_d94) (v := 4607182418800017408) (by decide +kernel) kz) ?_
  show Go p e below _ T3 (mkF m 95 #[.val (.ref a), .val (.ref nm), .val (.int fi), .val (.ref ar), .val (.int (1 : Int32)), .val (.double (4607182418800017408 : UInt64)), .second] [(.double (4607182418800017408 : UInt64)), (.double (4607182418800017408 : UInt64))])
  refine Go.of (fun _ kz => XS.dcmpS X3.here hx rfl (hb hby own_c4_d95) rfl rfl kz) ?_
  show Go p e below _ T3 (mkF m 96 #[.val (.ref a), .val (.ref nm), .val (.int fi), .val (.ref ar), .val (.int (1 : Int32)), .val (.double (4607182418800017408 : UInt64)), .second] [(.int (cmpValue (FP.dcmp (4607182418800017408 : UInt64) (4607182418800017408 : UInt64)) .g))])
  refine Go.of (fun _ kz => XS.ifYes X3.here hx rfl (pc0 := 96) (pc' := 118) rfl (hb hby own_c4_d96) rfl ((if0 _ _).trans (flt (by decide +kernel : ¬ (0 : Int32) < (cmpValue (FP.dcmp (4607182418800017408 : UInt64) (4607182418800017408 : UInt64)) .g))).2.2.2) (by decide) (by decide) kz) ?_
  show Go p e below _ T3 (mkF m 118 #[.val (.ref a), .val (.ref nm), .val (.int fi), .val (.ref ar), .val (.int (1 : Int32)), .val (.double (4607182418800017408 : UInt64)), .second] [])
  refine Go.of (fun _ kz => XS.iinc X3.here hx rfl (hb hby own_c4_d118) rfl (l' := #[.val (.ref a), .val (.ref nm), .val (.int fi), .val (.ref ar), .val (.int (2 : Int32)), .val (.double (4607182418800017408 : UInt64)), .second]) rfl kz) ?_
  show Go p e below _ T3 (mkF m 121 #[.val (.ref a), .val (.ref nm), .val (.int fi), .val (.ref ar), .val (.int (2 : Int32)), .val (.double (4607182418800017408 : UInt64)), .second] [])
  refine Go.of (fun _ kz => XS.goto X3.here hx rfl (pc0 := 121) (pc' := 72) rfl (hb hby own_c4_d121) (by decide) (by decide) kz) ?_
  show Go p e below _ T3 (mkF m 72 #[.val (.ref a), .val (.ref nm), .val (.int fi), .val (.ref ar), .val (.int (2 : Int32)), .val (.double (4607182418800017408 : UInt64)), .second] [])
  refine Go.of (fun _ kz => XS.iload X3.here hx rfl (hb hby own_c4_d72) rfl kz) ?_
  show Go p e below _ T3 (mkF m 74 #[.val (.ref a), .val (.ref nm), .val (.int fi), .val (.ref ar), .val (.int (2 : Int32)), .val (.double (4607182418800017408 : UInt64)), .second] [(.int (2 : Int32))])
  refine Go.of (fun _ kz => XS.aloadN X3.here hx rfl (hb hby own_c4_d74) rfl rfl kz) ?_
  show Go p e below _ T3 (mkF m 75 #[.val (.ref a), .val (.ref nm), .val (.int fi), .val (.ref ar), .val (.int (2 : Int32)), .val (.double (4607182418800017408 : UInt64)), .second] [(.ref ar), (.int (2 : Int32))])
  refine Go.len X3 hx hZ e3 (VR.ext E2) (hb hby own_c4_d75) ?_
  show Go p e below _ T3 (mkF m 76 #[.val (.ref a), .val (.ref nm), .val (.int fi), .val (.ref ar), .val (.int (2 : Int32)), .val (.double (4607182418800017408 : UInt64)), .second] [(.int (4 : Int32)), (.int (2 : Int32))])
  refine Go.of (fun _ kz => XS.icmpNo X3.here hx rfl (hb hby own_c4_d76) rfl (tlt (by decide : (2 : Int32) < (4 : Int32))).2.1 kz) ?_
  show Go p e below _ T3 (mkF m 79 #[.val (.ref a), .val (.ref nm), .val (.int fi), .val (.ref ar), .val (.int (2 : Int32)), .val (.double (4607182418800017408 : UInt64)), .second] [])
  refine Go.of (fun _ kz => XS.aloadN X3.here hx rfl (hb hby own_c4_d79) rfl rfl kz) ?_
  show Go p e below _ T3 (mkF m 80 #[.val (.ref a), .val (.ref nm), .val (.int fi), .val (.ref ar), .val (.int (2 : Int32)), .val (.double (4607182418800017408 : UInt64)), .second] [(.ref ar)])
  refine Go.of (fun _ kz => XS.iload X3.here hx rfl (hb hby own_c4_d80) rfl kz) ?_
  show Go p e below _ T3 (mkF m 82 #[.val (.ref a), .val (.ref nm), .val (.int fi), .val (.ref ar), .val (.int (2 : Int32)), .val (.double (4607182418800017408 : UInt64)), .second] [(.int (2 : Int32)), (.ref ar)])
  refine Go.daload X3 hx hZ e3 (VR.ext E2) ⟨by decide, by decide⟩ (v := (.double (4602678819172646912 : UInt64))) rfl (hb hby own_c4_d82) ?_
  show Go p e below _ T3 (mkF m 83 #[.val (.ref a), .val (.ref nm), .val (.int fi), .val (.ref ar), .val (.int (2 : Int32)), .val (.double (4607182418800017408 : UInt64)), .second] [(.double (4602678819172646912 : UInt64))])
  refine Go.of (fun _ kz => XS.dstore X3.here hx rfl (hb hby own_c4_d83) rfl (l' := #[.val (.ref a), .val (.ref nm), .val (.int fi), .val (.ref ar), .val (.int (2 : Int32)), .val (.double (4602678819172646912 : UInt64)), .second]) rfl kz) ?_
  show Go p e below _ T3 (mkF m 85 #[.val (.ref a), .val (.ref nm), .val (.int fi), .val (.ref ar), .val (.int (2 : Int32)), .val (.double (4602678819172646912 : UInt64)), .second] [])
  refine Go.of (fun _ kz => XS.dload X3.here hx rfl (hb hby own_c4_d85) rfl kz) ?_
  show Go p e below _ T3 (mkF m 87 #[.val (.ref a), .val (.ref nm), .val (.int fi), .val (.ref ar), .val (.int (2 : Int32)), .val (.double (4602678819172646912 : UInt64)), .second] [(.double (4602678819172646912 : UInt64))])
  refine Go.of (fun _ kz => XS.dconst0 X3.here hx rfl (hb hby own_c4_d87) (v := 0) (by decide +kernel) kz) ?_
  show Go p e below _ T3 (mkF m 88 #[.val (.ref a), .val (.ref nm), .val (.int fi), .val (.ref ar), .val (.int (2 : Int32)), .val (.double (4602678819172646912 : UInt64)), .second] [(.double (0 : UInt64)), (.double (4602678819172646912 : UInt64))])
  refine Go.of (fun _ kz => XS.dcmpS X3.here hx rfl (hb hby own_c4_d88) rfl rfl kz) ?_
  show Go p e below _ T3 (mkF m 89 #[.val (.ref a), .val (.ref nm), .val (.int fi), .val (.ref ar), .val (.int (2 : Int32)), .val (.double (4602678819172646912 : UInt64)), .second] [(.int (cmpValue (FP.dcmp (4602678819172646912 : UInt64) (0 : UInt64)) .l))])
  refine Go.of (fun _ kz => XS.ifNo X3.here hx rfl (hb hby own_c4_d89) rfl ((if0 _ _).trans (flt (by decide +kernel : ¬ (cmpValue (FP.dcmp (4602678819172646912 : UInt64) (0 : UInt64)) .l) < (0 : Int32))).1) kz) ?_
  show Go p e below _ T3 (mkF m 92 #[.val (.ref a), .val (.ref nm), .val (.int fi), .val (.ref ar), .val (.int (2 : Int32)), .val (.double (4602678819172646912 : UInt64)), .second] [])
  refine Go.of (fun _ kz => XS.dload X3.here hx rfl (hb hby own_c4_d92) rfl kz) ?_
  show Go p e below _ T3 (mkF m 94 #[.val (.ref a), .val (.ref nm), .val (.int fi), .val (.ref ar), .val (.int (2 : Int32)), .val (.double (4602678819172646912 : UInt64)), .second] [(.double (4602678819172646912 : UInt64))])
  refine Go.of (fun _ kz => XS.dconst1 X3.here hx rfl (hb hby own_c4_d94) (v := 4607182418800017408) (by decide +kernel) kz) ?_
  show Go p e below _ T3 (mkF m 95 #[.val (.ref a), .val (.ref nm), .val (.int fi), .val (.ref ar), .val (.int (2 : Int32)), .val (.double (4602678819172646912 : UInt64)), .second] [(.double (4607182418800017408 : UInt64)), (.double (4602678819172646912 : UInt64))])
  refine Go.of (fun _ kz => XS.dcmpS X3.here hx rfl (hb hby own_c4_d95) rfl rfl kz) ?_
  show Go p e below _ T3 (mkF m 96 #[.val (.ref a), .val (.ref nm), .val (.int fi), .val (.ref ar), .val (.int (2 : Int32)), .val (.double (4602678819172646912 : UInt64)), .second] [(.int (cmpValue (FP.dcmp (4602678819172646912 : UInt64) (4607182418800017408 : UInt64)) .g))])
  refine Go.of (fun _ kz => XS.ifYes X3.here hx rfl (pc0 := 96) (pc' := 118) rfl (hb hby own_c4_d96) rfl ((if0 _ _).trans (flt (by decide +kernel : ¬ (0 : Int32) < (cmpValue (FP.dcmp (4602678819172646912 : UInt64) (4607182418800017408 : UInt64)) .g))).2.2.2) (by decide) (by decide) kz) ?_
  show Go p e below _ T3 (mkF m 118 #[.val (.ref a), .val (.ref nm), .val (.int fi), .val (.ref ar), .val (.int (2 : Int32)), .val (.double (4602678819172646912 : UInt64)), .second] [])
  refine Go.of (fun _ kz => XS.iinc X3.here hx rfl (hb hby own_c4_d118) rfl (l' := #[.val (.ref a), .val (.ref nm), .val (.int fi), .val (.ref ar), .val (.int (3 : Int32)), .val (.double (4602678819172646912 : UInt64)), .second]) rfl kz) ?_
  show Go p e below _ T3 (mkF m 121 #[.val (.ref a), .val (.ref nm), .val (.int fi), .val (.ref ar), .val (.int (3 : Int32)), .val (.double (4602678819172646912 : UInt64)), .second] [])
  refine Go.of (fun _ kz => XS.goto X3.here hx rfl (pc0 := 121) (pc' := 72) rfl (hb hby own_c4_d121) (by decide) (by decide) kz) ?_
  show Go p e below _ T3 (mkF m 72 #[.val (.ref a), .val (.ref nm), .val (.int fi), .val (.ref ar), .val (.int (3 : Int32)), .val (.double (4602678819172646912 : UInt64)), .second] [])
  refine Go.of (fun _ kz => XS.iload X3.here hx rfl (hb hby own_c4_d72) rfl kz) ?_
  show Go p e below _ T3 (mkF m 74 #[.val (.ref a), .val (.ref nm), .val (.int fi), .val (.ref ar), .val (.int (3 : Int32)), .val (.double (4602678819172646912 : UInt64)), .second] [(.int (3 : Int32))])
  refine Go.of (fun _ kz => XS.aloadN X3.here hx rfl (hb hby own_c4_d74) rfl rfl kz) ?_
  show Go p e below _ T3 (mkF m 75 #[.val (.ref a), .val (.ref nm), .val (.int fi), .val (.ref ar), .val (.int (3 : Int32)), .val (.double (4602678819172646912 : UInt64)), .second] [(.ref ar), (.int (3 : Int32))])
  refine Go.len X3 hx hZ e3 (VR.ext E2) (hb hby own_c4_d75) ?_
  show Go p e below _ T3 (mkF m 76 #[.val (.ref a), .val (.ref nm), .val (.int fi), .val (.ref ar), .val (.int (3 : Int32)), .val (.double (4602678819172646912 : UInt64)), .second] [(.int (4 : Int32)), (.int (3 : Int32))])
  refine Go.of (fun _ kz => XS.icmpNo X3.here hx rfl (hb hby own_c4_d76) rfl (tlt (by decide : (3 : Int32) < (4 : Int32))).2.1 kz) ?_
  show Go p e below _ T3 (mkF m 79 #[.val (.ref a), .val (.ref nm), .val (.int fi), .val (.ref ar), .val (.int (3 : Int32)), .val (.double (4602678819172646912 : UInt64)), .second] [])
  refine Go.of (fun _ kz => XS.aloadN X3.here hx rfl (hb hby own_c4_d79) rfl rfl kz) ?_
  show Go p e below _ T3 (mkF m 80 #[.val (.ref a), .val (.ref nm), .val (.int fi), .val (.ref ar), .val (.int (3 : Int32)), .val (.double (4602678819172646912 : UInt64)), .second] [(.ref ar)])
  refine Go.of (fun _ kz => XS.iload X3.here hx rfl (hb hby own_c4_d80) rfl kz) ?_
  show Go p e below _ T3 (mkF m 82 #[.val (.ref a), .val (.ref nm), .val (.int fi), .val (.ref ar), .val (.int (3 : Int32)), .val (.double (4602678819172646912 : UInt64)), .second] [(.int (3 : Int32)), (.ref ar)])
  refine Go.daload X3 hx hZ e3 (VR.ext E2) ⟨by decide, by decide⟩ (v := (.double (4600427019358961664 : UInt64))) rfl (hb hby own_c4_d82) ?_
  show Go p e below _ T3 (mkF m 83 #[.val (.ref a), .val (.ref nm), .val (.int fi), .val (.ref ar), .val (.int (3 : Int32)), .val (.double (4602678819172646912 : UInt64)), .second] [(.double (4600427019358961664 : UInt64))])
  refine Go.of (fun _ kz => XS.dstore X3.here hx rfl (hb hby own_c4_d83) rfl (l' := #[.val (.ref a), .val (.ref nm), .val (.int fi), .val (.ref ar), .val (.int (3 : Int32)), .val (.double (4600427019358961664 : UInt64)), .second]) rfl kz) ?_
  show Go p e below _ T3 (mkF m 85 #[.val (.ref a), .val (.ref nm), .val (.int fi), .val (.ref ar), .val (.int (3 : Int32)), .val (.double (4600427019358961664 : UInt64)), .second] [])
  refine Go.of (fun _ kz => XS.dload X3.here hx rfl (hb hby own_c4_d85) rfl kz) ?_
  show Go p e below _ T3 (mkF m 87 #[.val (.ref a), .val (.ref nm), .val (.int fi), .val (.ref ar), .val (.int (3 : Int32)), .val (.double (4600427019358961664 : UInt64)), .second] [(.double (4600427019358961664 : UInt64))])
  refine Go.of (fun _ kz => XS.dconst0 X3.here hx rfl (hb hby own_c4_d87) (v := 0) (by decide +kernel) kz) ?_
  show Go p e below _ T3 (mkF m 88 #[.val (.ref a), .val (.ref nm), .val (.int fi), .val (.ref ar), .val (.int (3 : Int32)), .val (.double (4600427019358961664 : UInt64)), .second] [(.double (0 : UInt64)), (.double (4600427019358961664 : UInt64))])
  refine Go.of (fun _ kz => XS.dcmpS X3.here hx rfl (hb hby own_c4_d88) rfl rfl kz) ?_
  show Go p e below _ T3 (mkF m 89 #[.val (.ref a), .val (.ref nm), .val (.int fi), .val (.ref ar), .val (.int (3 : Int32)), .val (.double (4600427019358961664 : UInt64)), .second] [(.int (cmpValue (FP.dcmp (4600427019358961664 : UInt64) (0 : UInt64)) .l))])
  refine Go.of (fun _ kz => XS.ifNo X3.here hx rfl (hb hby own_c4_d89) rfl ((if0 _ _).trans (flt (by decide +kernel : ¬ (cmpValue (FP.dcmp (4600427019358961664 : UInt64) (0 : UInt64)) .l) < (0 : Int32))).1) kz) ?_
  show Go p e below _ T3 (mkF m 92 #[.val (.ref a), .val (.ref nm), .val (.int fi), .val (.ref ar), .val (.int (3 : Int32)), .val (.double (4600427019358961664 : UInt64)), .second] [])
  refine Go.of (fun _ kz => XS.dload X3.here hx rfl (hb hby own_c4_d92) rfl kz) ?_
  show Go p e below _ T3 (mkF m 94 #[.val (.ref a), .val (.ref nm), .val (.int fi), .val (.ref ar), .val (.int (3 : Int32)), .val (.double (4600427019358961664 : UInt64)), .second] [(.double (4600427019358961664 : UInt64))])
  refine Go.of (fun _ kz => XS.dconst1 X3.here hx rfl (hb hby own_c4_d94) (v := 4607182418800017408) (by decide +kernel) kz) ?_
  show Go p e below _ T3 (mkF m 95 #[.val (.ref a), .val (.ref nm), .val (.int fi), .val (.ref ar), .val (.int (3 : Int32)), .val (.double (4600427019358961664 : UInt64)), .second] [(.double (4607182418800017408 : UInt64)), (.double (4600427019358961664 : UInt64))])
  refine Go.of (fun _ kz => XS.dcmpS X3.here hx rfl (hb hby own_c4_d95) rfl rfl kz) ?_
  show Go p e below _ T3 (mkF m 96 #[.val (.ref a), .val (.ref nm), .val (.int fi), .val (.ref ar), .val (.int (3 : Int32)), .val (.double (4600427019358961664 : UInt64)), .second] [(.int (cmpValue (FP.dcmp (4600427019358961664 : UInt64) (4607182418800017408 : UInt64)) .g))])
  refine Go.of (fun _ kz => XS.ifYes X3.here hx rfl (pc0 := 96) (pc' := 118) rfl (hb hby own_c4_d96) rfl ((if0 _ _).trans (flt (by decide +kernel : ¬ (0 : Int32) < (cmpValue (FP.dcmp (4600427019358961664 : UInt64) (4607182418800017408 : UInt64)) .g))).2.2.2) (by decide) (by decide) kz) ?_
  show Go p e below _ T3 (mkF m 118 #[.val (.ref a), .val (.ref nm), .val (.int fi), .val (.ref ar), .val (.int (3 : Int32)), .val (.double (4600427019358961664 : UInt64)), .second] [])
  refine Go.of (fun _ kz => XS.iinc X3.here hx rfl (hb hby own_c4_d118) rfl (l' := #[.val (.ref a), .val (.ref nm), .val (.int fi), .val (.ref ar), .val (.int (4 : Int32)), .val (.double (4600427019358961664 : UInt64)), .second]) rfl kz) ?_
  show Go p e below _ T3 (mkF m 121 #[.val (.ref a), .val (.ref nm), .val (.int fi), .val (.ref ar), .val (.int (4 : Int32)), .val (.double (4600427019358961664 : UInt64)), .second] [])
  refine Go.of (fun _ kz => XS.goto X3.here hx rfl (pc0 := 121) (pc' := 72) rfl (hb hby own_c4_d121) (by decide) (by decide) kz) ?_
  show Go p e below _ T3 (mkF m 72 #[.val (.ref a), .val (.ref nm), .val (.int fi), .val (.ref ar), .val (.int (4 : Int32)), .val (.double (4600427019358961664 : UInt64)), .second] [])
  refine Go.of (fun _ kz => XS.iload X3.here hx rfl (hb hby own_c4_d72) rfl kz) ?_
  show Go p e below _ T3 (mkF m 74 #[.val (.ref a), .val (.ref nm), .val (.int fi), .val (.ref ar), .val (.int (4 : Int32)), .val (.double (4600427019358961664 : UInt64)), .second] [(.int (4 : Int32))])
  refine Go.of (fun _ kz => XS.aloadN X3.here hx rfl (hb hby own_c4_d74) rfl rfl kz) ?_
  show Go p e below _ T3 (mkF m 75 #[.val (.ref a), .val (.ref nm), .val (.int fi), .val (.ref ar), .val (.int (4 : Int32)), .val (.double (4600427019358961664 : UInt64)), .second] [(.ref ar), (.int (4 : Int32))])
  refine Go.len X3 hx hZ e3 (VR.ext E2) (hb hby own_c4_d75) ?_
  show Go p e below _ T3 (mkF m 76 #[.val (.ref a), .val (.ref nm), .val (.int fi), .val (.ref ar), .val (.int (4 : Int32)), .val (.double (4600427019358961664 : UInt64)), .second] [(.int (4 : Int32)), (.int (4 : Int32))])
  refine Go.of (fun _ kz => XS.icmpYes X3.here hx rfl (pc0 := 76) (pc' := 124) rfl (hb hby own_c4_d76) rfl (flt (by decide : ¬ ((4 : Int32) < (4 : Int32)))).2.1 (by decide) (by decide) kz) ?_
  show Go p e below _ T3 (mkF m 124 #[.val (.ref a), .val (.ref nm), .val (.int fi), .val (.ref ar), .val (.int (4 : Int32)), .val (.double (4600427019358961664 : UInt64)), .second] [])
  refine Go.of (fun _ kz => XS.aloadN X3.here hx rfl (hb hby own_c4_d124) rfl rfl kz) ?_
  show Go p e below _ T3 (mkF m 125 #[.val (.ref a), .val (.ref nm), .val (.int fi), .val (.ref ar), .val (.int (4 : Int32)), .val (.double (4600427019358961664 : UInt64)), .second] [(.ref a)])
  refine Go.of (fun _ kz => XS.aloadN X3.here hx rfl (hb hby own_c4_d125) rfl rfl kz) ?_
  show Go p e below _ T3 (mkF m 126 #[.val (.ref a), .val (.ref nm), .val (.int fi), .val (.ref ar), .val (.int (4 : Int32)), .val (.double (4600427019358961664 : UInt64)), .second] [(.ref nm), (.ref a)])
  refine Go.putf X3 hx hZ hown (hw _ (List.mem_of_getElem? (i := 32) rfl)) Via.refl e3 (F_name.ext E2) (EA.ext E2) (Or.inr ⟨(hw _ (List.mem_of_getElem? (i := 33) rfl)), rfl, hnm⟩) (hw _ (List.mem_of_getElem? (i := 10) rfl)) (ty := (.object "java/lang/String")) (by decide) rfl rfl (hb hby own_c4_d126) fun T4 h4 X4 e4 W4 F4 A4 => ?_
  have sz4 : n0 ≤ h4.size := Nat.le_trans sz2 (Keep.of_wr W4).1
  have hk4 : k2 ≤ h4.size := Nat.le_trans hk2 (Keep.of_wr W4).1
  have kp4 : Keep h0 h4 [a] := kp2.wr W4 (Or.inl (List.mem_of_getElem? (i := 0) rfl))
  have N4 := Fr.snoc X4 (Fr.nil n0) ga
  show Go p e below _ T4 (mkF m 129 #[.val (.ref a), .val (.ref nm), .val (.int fi), .val (.ref ar), .val (.int (4 : Int32)), .val (.double (4600427019358961664 : UInt64)), .second] [])
  refine Go.of (fun _ kz => XS.aloadN X4.here hx rfl (hb hby own_c4_d129) rfl rfl kz) ?_
  show Go p e below _ T4 (mkF m 130 #[.val (.ref a), .val (.ref nm), .val (.int fi), .val (.ref ar), .val (.int (4 : Int32)), .val (.double (4600427019358961664 : UInt64)), .second] [(.ref a)])
  refine Go.of (fun _ kz => XS.iloadN X4.here hx rfl (hb hby own_c4_d130) rfl kz) ?_
  show Go p e below _ T4 (mkF m 131 #[.val (.ref a), .val (.ref nm), .val (.int fi), .val (.ref ar), .val (.int (4 : Int32)), .val (.double (4600427019358961664 : UInt64)), .second] [(.int fi), (.ref a)])
  refine Go.putf X4 hx hZ hown (hw _ (List.mem_of_getElem? (i := 34) rfl)) Via.refl e4 ((F_minimumAge.ext E2).other W4 (Or.inr (slot_ne (Or.inr (hw _ (List.mem_of_getElem? (i := 35) rfl))) (Or.inr (hw _ (List.mem_of_getElem? (i := 33) rfl))) (by decide) (t := .int) (t' := (.object "java/lang/String")) (by decide) (by decide)))) A4 (Or.inr ⟨(hw _ (List.mem_of_getElem? (i := 35) rfl)), rfl, hnm⟩) (hw _ (List.mem_of_getElem? (i := 10) rfl)) (ty := .int) (by decide) rfl rfl (hb hby own_c4_d131) fun T5 h5 X5 e5 W5 F5 A5 => ?_
  have sz5 : n0 ≤ h5.size := Nat.le_trans sz4 (Keep.of_wr W5).1
  have hk5 : k2 ≤ h5.size := Nat.le_trans hk4 (Keep.of_wr W5).1
  have kp5 : Keep h0 h5 [a] := kp4.wr W5 (Or.inl (List.mem_of_getElem? (i := 0) rfl))
  have N5 := Fr.snoc X5 N4 ga
  show Go p e below _ T5 (mkF m 134 #[.val (.ref a), .val (.ref nm), .val (.int fi), .val (.ref ar), .val (.int (4 : Int32)), .val (.double (4600427019358961664 : UInt64)), .second] [])
  refine Go.of (fun _ kz => XS.aloadN X5.here hx rfl (hb hby own_c4_d134) rfl rfl kz) ?_
  show Go p e below _ T5 (mkF m 135 #[.val (.ref a), .val (.ref nm), .val (.int fi), .val (.ref ar), .val (.int (4 : Int32)), .val (.double (4600427019358961664 : UInt64)), .second] [(.ref a)])
  refine Go.of (fun _ kz => XS.aloadN X5.here hx rfl (hb hby own_c4_d135) rfl rfl kz) ?_
  show Go p e below _ T5 (mkF m 136 #[.val (.ref a), .val (.ref nm), .val (.int fi), .val (.ref ar), .val (.int (4 : Int32)), .val (.double (4600427019358961664 : UInt64)), .second] [(.ref ar), (.ref a)])
  refine Go.clone X5 hx hZ hown (hw _ (List.mem_of_getElem? (i := 36) rfl)) (hw _ (List.mem_of_getElem? (i := 37) rfl)) (hw _ (List.mem_of_getElem? (i := 41) rfl)) (hw _ (List.mem_of_getElem? (i := 39) rfl)) (hw _ (List.mem_of_getElem? (i := 40) rfl)) (hw _ (List.mem_of_getElem? (i := 42) rfl)) e5 (((VR.ext E2).other W4 hne).other W5 hne) (((ER.ext E2).wr W4).wr W5) (by rw [hml]; rfl) (hb hby own_c4_d136) (by decide) (W := 1) (cap := 4) (Nat.le_of_eq rfl) (by decide) (by decide) (by decide) (by decide) fun T6 h6 b6 g6 X6 e6 E6 V6 A6 => ?_
  have lt_a_b6 : a < b6 := Nat.lt_of_lt_of_le A5.lt (Nat.le_of_eq g6.symm)
  have lt_ar_b6 : ar < b6 := Nat.lt_of_lt_of_le (((ER.ext E2).wr W4).wr W5).lt (Nat.le_of_eq g6.symm)
  have ge_b6 : n0 ≤ b6 := g6 ▸ sz5
  have hs_b6 : h0.size ≤ b6 := g6 ▸ kp5.1
  have sz6 : n0 ≤ h6.size := Nat.le_trans sz5 E6.1
  have hk6 : k2 ≤ h6.size := Nat.le_trans hk5 E6.1
  have kp6 : Keep h0 h6 [a] := kp5.ext E6
  show Go p e below _ T6 (mkF m 139 #[.val (.ref a), .val (.ref nm), .val (.int fi), .val (.ref ar), .val (.int (4 : Int32)), .val (.double (4600427019358961664 : UInt64)), .second] [(.ref b6), (.ref a)])
  refine Go.castTo X6 hx hZ hown (hw _ (List.mem_of_getElem? (i := 43) rfl)) e6 (Ins.self A6) (hb hby own_c4_d139) fun T7 X7 e7 => ?_
  show Go p e below _ T7 (mkF m 142 #[.val (.ref a), .val (.ref nm), .val (.int fi), .val (.ref ar), .val (.int (4 : Int32)), .val (.double (4600427019358961664 : UInt64)), .second] [(.ref b6), (.ref a)])
  refine Go.putf X7 hx hZ hown (hw _ (List.mem_of_getElem? (i := 45) rfl)) Via.refl e7 ((((F_rates.ext E2).other W4 (Or.inr (slot_ne (Or.inr (hw _ (List.mem_of_getElem? (i := 46) rfl))) (Or.inr (hw _ (List.mem_of_getElem? (i := 33) rfl))) (by decide) (t := (.array .double)) (t' := (.object "java/lang/String")) (by decide) (by decide)))).other W5 (Or.inr (slot_ne (Or.inr (hw _ (List.mem_of_getElem? (i := 46) rfl))) (Or.inr (hw _ (List.mem_of_getElem? (i := 35) rfl))) (by decide) (t := (.array .double)) (t' := .int) (by decide) (by decide)))).ext E6) (A5.ext E6) (Or.inr ⟨(hw _ (List.mem_of_getElem? (i := 46) rfl)), rfl, hnm⟩) (hw _ (List.mem_of_getElem? (i := 10) rfl)) (ty := (.array .double)) (by decide) rfl rfl (hb hby own_c4_d142) fun T8 h8 X8 e8 W8 F8 A8 => ?_
  have sz8 : n0 ≤ h8.size := Nat.le_trans sz6 (Keep.of_wr W8).1
  have hk8 : k2 ≤ h8.size := Nat.le_trans hk6 (Keep.of_wr W8).1
  have kp8 : Keep h0 h8 [a] := kp6.wr W8 (Or.inl (List.mem_of_getElem? (i := 0) rfl))
  have N8 := Fr.snoc X8 N5 ga
  show Go p e below _ T8 (mkF m 145 #[.val (.ref a), .val (.ref nm), .val (.int fi), .val (.ref ar), .val (.int (4 : Int32)), .val (.double (4600427019358961664 : UInt64)), .second] [])
  exact Go.retVW X8 hx hS (by rw [e8]; exact hk8) hlk hret (hb hby own_c4_d145) (by decide) (by decide) (by rw [e8]; exact ⟨rfl, N8, kp8, A8, ((F5.ext E6).other W8 (Or.inr (slot_ne (Or.inr (hw _ (List.mem_of_getElem? (i := 35) rfl))) (Or.inr (hw _ (List.mem_of_getElem? (i := 46) rfl))) (by decide) (t := .int) (t' := (.array .double)) (by decide) (by decide)))), b6, kr, F8, hs_b6, (V6.other W8 (Nat.ne_of_gt lt_a_b6))⟩)
theorem own_xd0 : decode prog_6_method_4_code 0 = .ok (.aload_n 0, 1) := by decide +kernel
theorem own_xd1 : decode prog_6_method_4_code 1 = .ok (.getfield 40, 3) := by decide +kernel
theorem own_xd4 : decode prog_6_method_4_code 4 = .ok (.aload_n 0, 1) := by decide +kernel
theorem own_xd5 : decode prog_6_method_4_code 5 = .ok (.getfield 50, 3) := by decide +kernel
theorem own_xd8 : decode prog_6_method_4_code 8 = .ok (.arraylength, 1) := by decide +kernel
theorem own_xd9 : decode prog_6_method_4_code 9 = .ok (.iadd, 1) := by decide +kernel
theorem own_xd10 : decode prog_6_method_4_code 10 = .ok (.iconst 1, 1) := by decide +kernel
theorem own_xd11 : decode prog_6_method_4_code 11 = .ok (.isub, 1) := by decide +kernel
theorem own_xd12 : decode prog_6_method_4_code 12 = .ok (.ireturn, 1) := by decide +kernel
set_option maxRecDepth 65536 in
set_option maxHeartbeats 40000000 in
theorem own_rmMax (l : Launch) (Z : State) (a0 : Array Value) (hw : ∀ d ∈ tables_1, d.before a0 Z = true) (a b : Addr) (fi z : Int32) (kb : ClassId) (vs : List Value) (dv : Value) (h0 : Heap) (EA : Exa Z h0 a "com/example/vestry/vestry/actuarial/MortalityTable") (FM : Fld Z h0 a "com/example/vestry/vestry/actuarial/MortalityTable" "minimumAge" "I" (.int fi)) (FR : Fld Z h0 a "com/example/vestry/vestry/actuarial/MortalityTable" "rates" "[D" (.ref b)) (VB : Arv Z h0 b kb .double z vs dv) :
    MetFree l (⟨"com/example/vestry/vestry/actuarial/MortalityTable", "maximumAge", "()I"⟩ : MethodName) (head1 [Jvm.Cond.code (⟨"com/example/vestry/vestry/actuarial/MortalityTable", "maximumAge", "()I"⟩ : MethodName) prog_6_method_4_code 1 (some .int)] ({ frames := 0, cells := 0, slots := 0, locals := 0 } : Room)) (fun aa U => aa = #[(.ref a)] ∧ Z.Warmed39 U.vm ∧ U.heap = h0) (fun _ _ _ _ _ => True) (fun _ U o U' => ∃ v L, o = .returned v ∧ (PQ h0 (some (.int (fi + z - 1)))) v U'.heap L ∧ FrameEnd U o U' L ({ frames := 0, cells := 0, slots := 0, locals := 0 } : Room).cells ({ frames := 0, cells := 0, slots := 0, locals := 0 } : Room).slots) := by
  refine goBody (y := (⟨"com/example/vestry/vestry/actuarial/MortalityTable", "maximumAge", "()I"⟩ : MethodName)) (Q := PQ h0 (some (.int (fi + z - 1)))) (plainFor_of_name (by first | (simp [plainName, overriddenIn]; done) | decide +kernel)) ?_
  intro p e s m below meth c T0 hx hZ hby hml hown hnm hret hlk X0 e0
  have hown : s.vm.findClass "com/example/vestry/vestry/actuarial/MortalityTable" = some m.cls := hown
  refine Go.cast (g' := mkF m 0 #[.val (.ref a)] []) (by first | (simp [entryFrame, mkF, argsToLocals, Value.category]; done) | rfl) ?_
  show Go p e below _ T0 (mkF m 0 #[.val (.ref a)] [])
  refine Go.of (fun _ kz => XS.aloadN X0.here hx rfl (hb hby own_xd0) rfl rfl kz) ?_
  show Go p e below _ T0 (mkF m 1 #[.val (.ref a)] [(.ref a)])
  refine Go.getf X0 hx hZ hown (hw _ (List.mem_of_getElem? (i := 34) rfl)) Via.refl e0 FM (hb hby own_xd1) fun T1 X1 e1 => ?_
  show Go p e below _ T1 (mkF m 4 #[.val (.ref a)] [(.int fi)])
  refine Go.of (fun _ kz => XS.aloadN X1.here hx rfl (hb hby own_xd4) rfl rfl kz) ?_
  show Go p e below _ T1 (mkF m 5 #[.val (.ref a)] [(.ref a), (.int fi)])
  refine Go.getf X1 hx hZ hown (hw _ (List.mem_of_getElem? (i := 45) rfl)) Via.refl e1 FR (hb hby own_xd5) fun T2 X2 e2 => ?_
  show Go p e below _ T2 (mkF m 8 #[.val (.ref a)] [(.ref b), (.int fi)])
  refine Go.len X2 hx hZ e2 VB (hb hby own_xd8) ?_
  show Go p e below _ T2 (mkF m 9 #[.val (.ref a)] [(.int z), (.int fi)])
  refine Go.of (fun _ kz => XS.iadd X2.here hx rfl (hb hby own_xd9) rfl kz) ?_
  show Go p e below _ T2 (mkF m 10 #[.val (.ref a)] [(.int (fi + z))])
  refine Go.of (fun _ kz => XS.iconst X2.here hx rfl (hb hby own_xd10) kz) ?_
  show Go p e below _ T2 (mkF m 11 #[.val (.ref a)] [(.int (1 : Int32)), (.int (fi + z))])
  refine Go.of (fun _ kz => XS.isub X2.here hx rfl (hb hby own_xd11) rfl kz) ?_
  show Go p e below _ T2 (mkF m 12 #[.val (.ref a)] [(.int ((fi + z) - (1 : Int32)))])
  exact Go.retI X2 hx hlk hret (hb hby own_xd12) (by decide) (by decide) ⟨rfl, rfl, e2⟩
theorem own_yd0 : decode prog_6_method_3_code 0 = .ok (.aload_n 0, 1) := by decide +kernel
theorem own_yd1 : decode prog_6_method_3_code 1 = .ok (.getfield 40, 3) := by decide +kernel
theorem own_yd4 : decode prog_6_method_3_code 4 = .ok (.ireturn, 1) := by decide +kernel
set_option maxRecDepth 65536 in
set_option maxHeartbeats 40000000 in
theorem own_rmMn (l : Launch) (Z : State) (a0 : Array Value) (hw : ∀ d ∈ tables_1, d.before a0 Z = true) (a b : Addr) (fi z : Int32) (kb : ClassId) (vs : List Value) (dv : Value) (h0 : Heap) (EA : Exa Z h0 a "com/example/vestry/vestry/actuarial/MortalityTable") (FM : Fld Z h0 a "com/example/vestry/vestry/actuarial/MortalityTable" "minimumAge" "I" (.int fi)) (FR : Fld Z h0 a "com/example/vestry/vestry/actuarial/MortalityTable" "rates" "[D" (.ref b)) (VB : Arv Z h0 b kb .double z vs dv) :
    MetFree l (⟨"com/example/vestry/vestry/actuarial/MortalityTable", "minimumAge", "()I"⟩ : MethodName) (head1 [Jvm.Cond.code (⟨"com/example/vestry/vestry/actuarial/MortalityTable", "minimumAge", "()I"⟩ : MethodName) prog_6_method_3_code 1 (some .int)] ({ frames := 0, cells := 0, slots := 0, locals := 0 } : Room)) (fun aa U => aa = #[(.ref a)] ∧ Z.Warmed39 U.vm ∧ U.heap = h0) (fun _ _ _ _ _ => True) (fun _ U o U' => ∃ v L, o = .returned v ∧ (PQ h0 (some (.int fi))) v U'.heap L ∧ FrameEnd U o U' L ({ frames := 0, cells := 0, slots := 0, locals := 0 } : Room).cells ({ frames := 0, cells := 0, slots := 0, locals := 0 } : Room).slots) := by
  refine goBody (y := (⟨"com/example/vestry/vestry/actuarial/MortalityTable", "minimumAge", "()I"⟩ : MethodName)) (Q := PQ h0 (some (.int fi))) (plainFor_of_name (by first | (simp [plainName, overriddenIn]; done) | decide +kernel)) ?_
  intro p e s m below meth c T0 hx hZ hby hml hown hnm hret hlk X0 e0
  have hown : s.vm.findClass "com/example/vestry/vestry/actuarial/MortalityTable" = some m.cls := hown
  refine Go.cast (g' := mkF m 0 #[.val (.ref a)] []) (by first | (simp [entryFrame, mkF, argsToLocals, Value.category]; done) | rfl) ?_
  show Go p e below _ T0 (mkF m 0 #[.val (.ref a)] [])
  refine Go.of (fun _ kz => XS.aloadN X0.here hx rfl (hb hby own_yd0) rfl rfl kz) ?_
  show Go p e below _ T0 (mkF m 1 #[.val (.ref a)] [(.ref a)])
  refine Go.getf X0 hx hZ hown (hw _ (List.mem_of_getElem? (i := 34) rfl)) Via.refl e0 FM (hb hby own_yd1) fun T1 X1 e1 => ?_
  show Go p e below _ T1 (mkF m 4 #[.val (.ref a)] [(.int fi)])
  exact Go.retI X1 hx hlk hret (hb hby own_yd4) (by decide) (by decide) ⟨rfl, rfl, e1⟩
theorem own_hd0 : decode prog_6_method_6_code 0 = .ok (.iload_n 1, 1) := by decide +kernel
theorem own_hd1 : decode prog_6_method_6_code 1 = .ok (.aload_n 0, 1) := by decide +kernel
theorem own_hd2 : decode prog_6_method_6_code 2 = .ok (.getfield 40, 3) := by decide +kernel
theorem own_hd5 : decode prog_6_method_6_code 5 = .ok (.if_icmp .lt 11, 3) := by decide +kernel
theorem own_hd8 : decode prog_6_method_6_code 8 = .ok (.iload_n 1, 1) := by decide +kernel
theorem own_hd9 : decode prog_6_method_6_code 9 = .ok (.aload_n 0, 1) := by decide +kernel
theorem own_hd10 : decode prog_6_method_6_code 10 = .ok (.invokevirtual 57, 3) := by decide +kernel
theorem own_hd13 : decode prog_6_method_6_code 13 = .ok (.if_icmp .le 32, 3) := by decide +kernel
theorem own_hd45 : decode prog_6_method_6_code 45 = .ok (.return_, 1) := by decide +kernel
set_option maxRecDepth 65536 in
set_option maxHeartbeats 40000000 in
theorem own_rmCh (l : Launch) (Z : State) (a0 : Array Value) (hw : ∀ d ∈ tables_1, d.before a0 Z = true) (a b : Addr) (fi z : Int32) (kb : ClassId) (vs : List Value) (dv : Value) (h0 : Heap) (EA : Exa Z h0 a "com/example/vestry/vestry/actuarial/MortalityTable") (FM : Fld Z h0 a "com/example/vestry/vestry/actuarial/MortalityTable" "minimumAge" "I" (.int fi)) (FR : Fld Z h0 a "com/example/vestry/vestry/actuarial/MortalityTable" "rates" "[D" (.ref b)) (VB : Arv Z h0 b kb .double z vs dv) (hge : ¬ (fi + z - 1) < fi) :
    MetFree l (⟨"com/example/vestry/vestry/actuarial/MortalityTable", "checkCovers", "(I)V"⟩ : MethodName) (head1 [Jvm.Cond.code (⟨"com/example/vestry/vestry/actuarial/MortalityTable", "checkCovers", "(I)V"⟩ : MethodName) prog_6_method_6_code 2 none] ({ frames := 1, cells := 0, slots := 0, locals := 13 } : Room)) (fun aa U => aa = #[(.ref a), (.int (fi + z - 1))] ∧ Z.Warmed39 U.vm ∧ U.heap = h0) (fun _ _ _ _ _ => True) (fun _ U o U' => ∃ v L, o = .returned v ∧ (PQ h0 none) v U'.heap L ∧ FrameEnd U o U' L ({ frames := 1, cells := 0, slots := 0, locals := 13 } : Room).cells ({ frames := 1, cells := 0, slots := 0, locals := 13 } : Room).slots) := by
  refine goBody (y := (⟨"com/example/vestry/vestry/actuarial/MortalityTable", "checkCovers", "(I)V"⟩ : MethodName)) (Q := PQ h0 none) (plainFor_of_name (by first | (simp [plainName, overriddenIn]; done) | decide +kernel)) ?_
  intro p e s m below meth c T0 hx hZ hby hml hown hnm hret hlk X0 e0
  have hown : s.vm.findClass "com/example/vestry/vestry/actuarial/MortalityTable" = some m.cls := hown
  refine Go.cast (g' := mkF m 0 #[.val (.ref a), .val (.int (fi + z - 1))] []) (by first | (simp [entryFrame, mkF, argsToLocals, Value.category]; done) | rfl) ?_
  show Go p e below _ T0 (mkF m 0 #[.val (.ref a), .val (.int (fi + z - 1))] [])
  refine Go.of (fun _ kz => XS.iloadN X0.here hx rfl (hb hby own_hd0) rfl kz) ?_
  show Go p e below _ T0 (mkF m 1 #[.val (.ref a), .val (.int (fi + z - 1))] [(.int (fi + z - 1))])
  refine Go.of (fun _ kz => XS.aloadN X0.here hx rfl (hb hby own_hd1) rfl rfl kz) ?_
  show Go p e below _ T0 (mkF m 2 #[.val (.ref a), .val (.int (fi + z - 1))] [(.ref a), (.int (fi + z - 1))])
  refine Go.getf X0 hx hZ hown (hw _ (List.mem_of_getElem? (i := 34) rfl)) Via.refl e0 FM (hb hby own_hd2) fun T1 X1 e1 => ?_
  show Go p e below _ T1 (mkF m 5 #[.val (.ref a), .val (.int (fi + z - 1))] [(.int fi), (.int (fi + z - 1))])
  refine Go.of (fun _ kz => XS.icmpNo X1.here hx rfl (hb hby own_hd5) rfl (flt hge).1 kz) ?_
  show Go p e below _ T1 (mkF m 8 #[.val (.ref a), .val (.int (fi + z - 1))] [])
  refine Go.of (fun _ kz => XS.iloadN X1.here hx rfl (hb hby own_hd8) rfl kz) ?_
  show Go p e below _ T1 (mkF m 9 #[.val (.ref a), .val (.int (fi + z - 1))] [(.int (fi + z - 1))])
  refine Go.of (fun _ kz => XS.aloadN X1.here hx rfl (hb hby own_hd9) rfl rfl kz) ?_
  show Go p e below _ T1 (mkF m 10 #[.val (.ref a), .val (.int (fi + z - 1))] [(.ref a), (.int (fi + z - 1))])
  refine Go.callVP (W := 1) (y := (⟨"com/example/vestry/vestry/actuarial/MortalityTable", "maximumAge", "()I"⟩ : MethodName)) (z := (⟨"com/example/vestry/vestry/actuarial/MortalityTable", "maximumAge", "()I"⟩ : MethodName)) (a := a) (argsL := []) (rest := [(.int (fi + z - 1))]) (r := some (.int (fi + z - 1))) X1 hx hZ hown (hw _ (List.mem_of_getElem? (i := 67) rfl)) (hw _ (List.mem_of_getElem? (i := 48) rfl)) (notFace_of_selects (args := #[]) (mvT hZ (hw _ (List.mem_of_getElem? (i := 50) rfl)))) (hw _ (List.mem_of_getElem? (i := 50) rfl)) (hw _ (List.mem_of_getElem? (i := 49) rfl)) (hw _ (List.mem_of_getElem? (i := 11) rfl)) (hw _ (List.mem_of_getElem? (i := 51) rfl)) (by decide) (own_rmMax l Z a0 hw a b fi z kb vs dv h0 EA FM FR VB) e1 EA (by rw [hml]; rfl) (lenOf own_dsc1 rfl) (hb hby own_hd10) rfl (Nat.le_of_eq rfl) (by decide) (by decide) (by decide) (by decide) fun T2 X2 e2 => ?_
  show Go p e below _ T2 (mkF m 13 #[.val (.ref a), .val (.int (fi + z - 1))] [(.int (fi + z - 1)), (.int (fi + z - 1))])
  refine Go.of (fun _ kz => XS.icmpYes X2.here hx rfl (pc0 := 13) (pc' := 45) rfl (hb hby own_hd13) rfl (flt (Int32.lt_irrefl)).2.2.2 (by decide) (by decide) kz) ?_
  show Go p e below _ T2 (mkF m 45 #[.val (.ref a), .val (.int (fi + z - 1))] [])
  exact Go.retV X2 hx hlk hret (hb hby own_hd45) (by decide) (by decide) ⟨rfl, rfl, e2⟩
theorem own_td0 : decode prog_6_method_5_code 0 = .ok (.aload_n 0, 1) := by decide +kernel
theorem own_td1 : decode prog_6_method_5_code 1 = .ok (.iload_n 1, 1) := by decide +kernel
theorem own_td2 : decode prog_6_method_5_code 2 = .ok (.invokevirtual 53, 3) := by decide +kernel
theorem own_td5 : decode prog_6_method_5_code 5 = .ok (.aload_n 0, 1) := by decide +kernel
theorem own_td6 : decode prog_6_method_5_code 6 = .ok (.getfield 50, 3) := by decide +kernel
theorem own_td9 : decode prog_6_method_5_code 9 = .ok (.iload_n 1, 1) := by decide +kernel
theorem own_td10 : decode prog_6_method_5_code 10 = .ok (.aload_n 0, 1) := by decide +kernel
theorem own_td11 : decode prog_6_method_5_code 11 = .ok (.getfield 40, 3) := by decide +kernel
theorem own_td14 : decode prog_6_method_5_code 14 = .ok (.isub, 1) := by decide +kernel
theorem own_td15 : decode prog_6_method_5_code 15 = .ok (.daload, 1) := by decide +kernel
theorem own_td16 : decode prog_6_method_5_code 16 = .ok (.dreturn, 1) := by decide +kernel
set_option maxRecDepth 65536 in
set_option maxHeartbeats 40000000 in
theorem own_rmRa (l : Launch) (Z : State) (a0 : Array Value) (hw : ∀ d ∈ tables_1, d.before a0 Z = true) (a b : Addr) (fi z : Int32) (kb : ClassId) (vs : List Value) (dv : Value) (r : UInt64) (h0 : Heap) (EA : Exa Z h0 a "com/example/vestry/vestry/actuarial/MortalityTable") (FM : Fld Z h0 a "com/example/vestry/vestry/actuarial/MortalityTable" "minimumAge" "I" (.int fi)) (FR : Fld Z h0 a "com/example/vestry/vestry/actuarial/MortalityTable" "rates" "[D" (.ref b)) (VB : Arv Z h0 b kb .double z vs dv) (hge : ¬ (fi + z - 1) < fi) (hidx : ¬ (z - 1) < 0 ∧ (z - 1) < z) (hval : vs.getD (z - 1).toNatClampNeg dv = .double r) :
    MetFree l (⟨"com/example/vestry/vestry/actuarial/MortalityTable", "rate", "(I)D"⟩ : MethodName) (head1 [Jvm.Cond.code (⟨"com/example/vestry/vestry/actuarial/MortalityTable", "rate", "(I)D"⟩ : MethodName) prog_6_method_5_code 2 (some .double)] ({ frames := 2, cells := 0, slots := 0, locals := 26 } : Room)) (fun aa U => aa = #[(.ref a), (.int (fi + z - 1))] ∧ Z.Warmed39 U.vm ∧ U.heap = h0) (fun _ _ _ _ _ => True) (fun _ U o U' => ∃ v L, o = .returned v ∧ (PQ h0 (some (.double r))) v U'.heap L ∧ FrameEnd U o U' L ({ frames := 2, cells := 0, slots := 0, locals := 26 } : Room).cells ({ frames := 2, cells := 0, slots := 0, locals := 26 } : Room).slots) := by
  refine goBody (y := (⟨"com/example/vestry/vestry/actuarial/MortalityTable", "rate", "(I)D"⟩ : MethodName)) (Q := PQ h0 (some (.double r))) (plainFor_of_name (by first | (simp [plainName, overriddenIn]; done) | decide +kernel)) ?_
  intro p e s m below meth c T0 hx hZ hby hml hown hnm hret hlk X0 e0
  have hown : s.vm.findClass "com/example/vestry/vestry/actuarial/MortalityTable" = some m.cls := hown
  refine Go.cast (g' := mkF m 0 #[.val (.ref a), .val (.int (fi + z - 1))] []) (by first | (simp [entryFrame, mkF, argsToLocals, Value.category]; done) | rfl) ?_
  show Go p e below _ T0 (mkF m 0 #[.val (.ref a), .val (.int (fi + z - 1))] [])
  refine Go.of (fun _ kz => XS.aloadN X0.here hx rfl (hb hby own_td0) rfl rfl kz) ?_
  show Go p e below _ T0 (mkF m 1 #[.val (.ref a), .val (.int (fi + z - 1))] [(.ref a)])
  refine Go.of (fun _ kz => XS.iloadN X0.here hx rfl (hb hby own_td1) rfl kz) ?_
  show Go p e below _ T0 (mkF m 2 #[.val (.ref a), .val (.int (fi + z - 1))] [(.int (fi + z - 1)), (.ref a)])
  refine Go.callV (W := 0) (y := (⟨"com/example/vestry/vestry/actuarial/MortalityTable", "checkCovers", "(I)V"⟩ : MethodName)) (z := (⟨"com/example/vestry/vestry/actuarial/MortalityTable", "checkCovers", "(I)V"⟩ : MethodName)) (a := a) (argsL := [(.int (fi + z - 1))]) (rest := []) X0 hx hZ hown (hw _ (List.mem_of_getElem? (i := 62) rfl)) (hw _ (List.mem_of_getElem? (i := 63) rfl)) (notFace_of_selects (args := #[]) (mvT hZ (hw _ (List.mem_of_getElem? (i := 65) rfl)))) (hw _ (List.mem_of_getElem? (i := 65) rfl)) (hw _ (List.mem_of_getElem? (i := 64) rfl)) (hw _ (List.mem_of_getElem? (i := 11) rfl)) (hw _ (List.mem_of_getElem? (i := 66) rfl)) (by decide) (own_rmCh l Z a0 hw a b fi z kb vs dv h0 EA FM FR VB hge) e0 EA (by rw [hml]; rfl) (lenOf own_dsc2 rfl) (hb hby own_td2) rfl (Nat.le_of_eq rfl) (by decide) (by decide) (by decide) (by decide) fun _ T1 L1 X1 q1 => ?_
  obtain ⟨rfl, rfl, e1⟩ := q1
  rw [List.append_nil] at X1
  show Go p e below _ T1 (mkF m 5 #[.val (.ref a), .val (.int (fi + z - 1))] [])
  refine Go.of (fun _ kz => XS.aloadN X1.here hx rfl (hb hby own_td5) rfl rfl kz) ?_
  show Go p e below _ T1 (mkF m 6 #[.val (.ref a), .val (.int (fi + z - 1))] [(.ref a)])
  refine Go.getf X1 hx hZ hown (hw _ (List.mem_of_getElem? (i := 45) rfl)) Via.refl e1 FR (hb hby own_td6) fun T2 X2 e2 => ?_
  show Go p e below _ T2 (mkF m 9 #[.val (.ref a), .val (.int (fi + z - 1))] [(.ref b)])
  refine Go.of (fun _ kz => XS.iloadN X2.here hx rfl (hb hby own_td9) rfl kz) ?_
  show Go p e below _ T2 (mkF m 10 #[.val (.ref a), .val (.int (fi + z - 1))] [(.int (fi + z - 1)), (.ref b)])
  refine Go.of (fun _ kz => XS.aloadN X2.here hx rfl (hb hby own_td10) rfl rfl kz) ?_
  show Go p e below _ T2 (mkF m 11 #[.val (.ref a), .val (.int (fi + z - 1))] [(.ref a), (.int (fi + z - 1)), (.ref b)])
  refine Go.getf X2 hx hZ hown (hw _ (List.mem_of_getElem? (i := 34) rfl)) Via.refl e2 FM (hb hby own_td11) fun T3 X3 e3 => ?_
  show Go p e below _ T3 (mkF m 14 #[.val (.ref a), .val (.int (fi + z - 1))] [(.int fi), (.int (fi + z - 1)), (.ref b)])
  refine Go.of (fun _ kz => XS.isub X3.here hx rfl (hb hby own_td14) rfl kz) ?_
  show Go p e below _ T3 (mkF m 15 #[.val (.ref a), .val (.int (fi + z - 1))] [(.int ((fi + z - 1) - fi)), (.ref b)])
  rw [own_back]
  show Go p e below _ T3 (mkF m 15 #[.val (.ref a), .val (.int (fi + z - 1))] [(.int (z - 1)), (.ref b)])
  refine Go.daload X3 hx hZ e3 VB hidx (v := (.double r)) hval (hb hby own_td15) ?_
  show Go p e below _ T3 (mkF m 16 #[.val (.ref a), .val (.int (fi + z - 1))] [(.double r)])
  exact Go.retD X3 hx hlk hret (hb hby own_td16) (by decide) (by decide) ⟨rfl, rfl, e3⟩
set_option maxRecDepth 65536 in
set_option maxHeartbeats 40000000 in
theorem rm0 (l : Launch) (Z : State) (a0 : Array Value) (hw : ∀ d ∈ tables_1, d.before a0 Z = true) (ws : List Jvm.Cond) (xa xb : Int32) (h0 : Heap)  :
    MetFree l x (head1 (Jvm.Cond.code x code maxLocals ret :: ws) room_1) (fun aa U => aa = #[(.int xa), (.int xb)] ∧ Z.Warmed39 U.vm ∧ U.heap = h0) (fun _ _ _ _ _ => True) (fun _ U o U' => ∃ v L, o = .returned v ∧ (fun v _ L => v = some (.int 1) ∧ Fr h0.size L) v U'.heap L ∧ ReturnedEndW U o U' L room_1.cells room_1.slots) := by
  refine goBodyW (y := x) (Q := fun v _ L => v = some (.int 1) ∧ Fr h0.size L) (plainFor_of_name (by first | (simp [plainName, overriddenIn]; done) | decide +kernel)) ?_
  intro p e s m below meth c T0 hx hZ hby hml hown hnm hret hlk X0 e0 hS
  have wS : ∀ d ∈ Bundle.stringAtoms, d.before a0 Z = true := fun d hd => by
    simp only [Bundle.stringAtoms, List.mem_cons, List.not_mem_nil, or_false] at hd
    rcases hd with rfl | rfl | rfl | rfl | rfl | rfl | rfl
    · exact (hw _ (List.mem_of_getElem? (i := 13) rfl))
    · exact (hw _ (List.mem_of_getElem? (i := 14) rfl))
    · exact (hw _ (List.mem_of_getElem? (i := 15) rfl))
    · exact (hw _ (List.mem_of_getElem? (i := 16) rfl))
    · exact (hw _ (List.mem_of_getElem? (i := 17) rfl))
    · exact (hw _ (List.mem_of_getElem? (i := 18) rfl))
    · exact (hw _ (List.mem_of_getElem? (i := 19) rfl))
  have hk : 0 ≤ h0.size := Nat.zero_le _
  have hown : s.vm.findClass "com/example/vestry/vestry/actuarial/MortalityTableMaximumAgePinLaw" = some m.cls := hown
  have hml : c.maxLocals = 12 := hml
  refine Go.cast (g' := mkF m 0 #[.val (.int xa), .val (.int xb), .unset, .unset, .unset, .unset, .unset, .unset, .unset, .unset, .unset, .unset] []) (by first | (simp [entryFrame, mkF, argsToLocals, Value.category, maxLocals]; done) | rfl) ?_
  show Go p e below _ T0 (mkF m 0 #[.val (.int xa), .val (.int xb), .unset, .unset, .unset, .unset, .unset, .unset, .unset, .unset, .unset, .unset] [])
  refine Go.of (fun _ kz => XS.iloadN X0.here hx rfl (hb hby at_0) rfl kz) ?_
  show Go p e below _ T0 (mkF m 1 #[.val (.int xa), .val (.int xb), .unset, .unset, .unset, .unset, .unset, .unset, .unset, .unset, .unset, .unset] [(.int xb)])
  refine Go.of (fun _ kz => XS.iconst X0.here hx rfl (hb hby at_1) kz) ?_
  show Go p e below _ T0 (mkF m 2 #[.val (.int xa), .val (.int xb), .unset, .unset, .unset, .unset, .unset, .unset, .unset, .unset, .unset, .unset] [(.int (3 : Int32)), (.int xb)])
  refine Go.of (fun _ kz => XS.iand X0.here hx rfl (hb hby at_2) rfl kz) ?_
  show Go p e below _ T0 (mkF m 3 #[.val (.int xa), .val (.int xb), .unset, .unset, .unset, .unset, .unset, .unset, .unset, .unset, .unset, .unset] [(.int (xb &&& (3 : Int32)))])
  generalize h_kk : (xb &&& (3 : Int32)) = kk
  have hkk := own_k h_kk
  refine Go.of (fun _ kz => XS.istoreN X0.here hx rfl (hb hby at_3) rfl (l' := #[.val (.int xa), .val (.int xb), .val (.int kk), .unset, .unset, .unset, .unset, .unset, .unset, .unset, .unset, .unset]) rfl kz) ?_
  show Go p e below _ T0 (mkF m 4 #[.val (.int xa), .val (.int xb), .val (.int kk), .unset, .unset, .unset, .unset, .unset, .unset, .unset, .unset, .unset] [])
  refine Go.of (fun _ kz => XS.iloadN X0.here hx rfl (hb hby at_4) rfl kz) ?_
  show Go p e below _ T0 (mkF m 5 #[.val (.int xa), .val (.int xb), .val (.int kk), .unset, .unset, .unset, .unset, .unset, .unset, .unset, .unset, .unset] [(.int kk)])
  refine Go.of (fun _ kz => XS.iconst X0.here hx rfl (hb hby at_5) kz) ?_
  show Go p e below _ T0 (mkF m 6 #[.val (.int xa), .val (.int xb), .val (.int kk), .unset, .unset, .unset, .unset, .unset, .unset, .unset, .unset, .unset] [(.int (1 : Int32)), (.int kk)])
  refine Go.of (fun _ kz => XS.iadd X0.here hx rfl (hb hby at_6) rfl kz) ?_
  show Go p e below _ T0 (mkF m 7 #[.val (.int xa), .val (.int xb), .val (.int kk), .unset, .unset, .unset, .unset, .unset, .unset, .unset, .unset, .unset] [(.int (kk + (1 : Int32)))])
  refine Go.of (fun _ kz => XS.istoreN X0.here hx rfl (hb hby at_7) rfl (l' := #[.val (.int xa), .val (.int xb), .val (.int kk), .val (.int (kk + (1 : Int32))), .unset, .unset, .unset, .unset, .unset, .unset, .unset, .unset]) rfl kz) ?_
  show Go p e below _ T0 (mkF m 8 #[.val (.int xa), .val (.int xb), .val (.int kk), .val (.int (kk + (1 : Int32))), .unset, .unset, .unset, .unset, .unset, .unset, .unset, .unset] [])
  refine Go.of (fun _ kz => XS.iloadN X0.here hx rfl (hb hby at_8) rfl kz) ?_
  show Go p e below _ T0 (mkF m 9 #[.val (.int xa), .val (.int xb), .val (.int kk), .val (.int (kk + (1 : Int32))), .unset, .unset, .unset, .unset, .unset, .unset, .unset, .unset] [(.int xa)])
  refine Go.of (X0.ldcInt hx hown (mvT hZ (hw _ (List.mem_of_getElem? (i := 0) rfl))) (g := (mkF m 9 #[.val (.int xa), .val (.int xb), .val (.int kk), .val (.int (kk + (1 : Int32))), .unset, .unset, .unset, .unset, .unset, .unset, .unset, .unset] [(.int xa)])) rfl (hb hby at_9)) ?_
  show Go p e below _ T0 (mkF m 11 #[.val (.int xa), .val (.int xb), .val (.int kk), .val (.int (kk + (1 : Int32))), .unset, .unset, .unset, .unset, .unset, .unset, .unset, .unset] [(.int (2147483647 : Int32)), (.int xa)])
  refine Go.of (fun _ kz => XS.iand X0.here hx rfl (hb hby at_11) rfl kz) ?_
  show Go p e below _ T0 (mkF m 12 #[.val (.int xa), .val (.int xb), .val (.int kk), .val (.int (kk + (1 : Int32))), .unset, .unset, .unset, .unset, .unset, .unset, .unset, .unset] [(.int (xa &&& (2147483647 : Int32)))])
  refine Go.of (X0.ldcInt hx hown (mvT hZ (hw _ (List.mem_of_getElem? (i := 0) rfl))) (g := (mkF m 12 #[.val (.int xa), .val (.int xb), .val (.int kk), .val (.int (kk + (1 : Int32))), .unset, .unset, .unset, .unset, .unset, .unset, .unset, .unset] [(.int (xa &&& (2147483647 : Int32)))])) rfl (hb hby at_12)) ?_
  show Go p e below _ T0 (mkF m 14 #[.val (.int xa), .val (.int xb), .val (.int kk), .val (.int (kk + (1 : Int32))), .unset, .unset, .unset, .unset, .unset, .unset, .unset, .unset] [(.int (2147483647 : Int32)), (.int (xa &&& (2147483647 : Int32)))])
  refine Go.of (fun _ kz => XS.iloadN X0.here hx rfl (hb hby at_14) rfl kz) ?_
  show Go p e below _ T0 (mkF m 15 #[.val (.int xa), .val (.int xb), .val (.int kk), .val (.int (kk + (1 : Int32))), .unset, .unset, .unset, .unset, .unset, .unset, .unset, .unset] [(.int kk), (.int (2147483647 : Int32)), (.int (xa &&& (2147483647 : Int32)))])
  refine Go.of (fun _ kz => XS.isub X0.here hx rfl (hb hby at_15) rfl kz) ?_
  show Go p e below _ T0 (mkF m 16 #[.val (.int xa), .val (.int xb), .val (.int kk), .val (.int (kk + (1 : Int32))), .unset, .unset, .unset, .unset, .unset, .unset, .unset, .unset] [(.int ((2147483647 : Int32) - kk)), (.int (xa &&& (2147483647 : Int32)))])
  refine Go.callSP (W := 0) (y := (⟨"java/lang/Math", "min", "(II)I"⟩ : MethodName)) (argsL := [(.int (xa &&& (2147483647 : Int32))), (.int ((2147483647 : Int32) - kk))]) (rest := []) (r := some (.int (own_min (xa &&& (2147483647 : Int32)) ((2147483647 : Int32) - kk)))) X0 hx hZ hown (hw _ (List.mem_of_getElem? (i := 1) rfl)) (hw _ (List.mem_of_getElem? (i := 2) rfl)) (hw _ (List.mem_of_getElem? (i := 3) rfl)) (hw _ (List.mem_of_getElem? (i := 4) rfl)) (by decide) (own_rmMin l Z a0 hw (xa &&& (2147483647 : Int32)) ((2147483647 : Int32) - kk) h0) e0 (by rw [hml]; rfl) (lenOf own_dsc3 rfl) (hb hby at_16) rfl (Nat.le_of_eq rfl) (by decide) (by decide) (by decide) (by decide) fun T1 X1 e1 => ?_
  show Go p e below _ T1 (mkF m 19 #[.val (.int xa), .val (.int xb), .val (.int kk), .val (.int (kk + (1 : Int32))), .unset, .unset, .unset, .unset, .unset, .unset, .unset, .unset] [(.int (own_min (xa &&& (2147483647 : Int32)) ((2147483647 : Int32) - kk)))])
  generalize h_fi : (own_min (xa &&& (2147483647 : Int32)) ((2147483647 : Int32) - kk)) = fi
  have hfi := own_first hkk h_fi
  refine Go.of (fun _ kz => XS.istore X1.here hx rfl (hb hby at_19) rfl (l' := #[.val (.int xa), .val (.int xb), .val (.int kk), .val (.int (kk + (1 : Int32))), .val (.int fi), .unset, .unset, .unset, .unset, .unset, .unset, .unset]) rfl kz) ?_
  show Go p e below _ T1 (mkF m 21 #[.val (.int xa), .val (.int xb), .val (.int kk), .val (.int (kk + (1 : Int32))), .val (.int fi), .unset, .unset, .unset, .unset, .unset, .unset, .unset] [])
  refine Go.of (fun _ kz => XS.iloadN X1.here hx rfl (hb hby at_21) rfl kz) ?_
  show Go p e below _ T1 (mkF m 22 #[.val (.int xa), .val (.int xb), .val (.int kk), .val (.int (kk + (1 : Int32))), .val (.int fi), .unset, .unset, .unset, .unset, .unset, .unset, .unset] [(.int kk)])
  by_cases hc22 : kk = (0 : Int32)
  ·
    refine Go.of (fun _ kz => XS.ifNo X1.here hx rfl (hb hby at_22) rfl ((if0 _ _).trans (teq hc22).2) kz) ?_
    show Go p e below _ T1 (mkF m 25 #[.val (.int xa), .val (.int xb), .val (.int kk), .val (.int (kk + (1 : Int32))), .val (.int fi), .unset, .unset, .unset, .unset, .unset, .unset, .unset] [])
    obtain rfl : kk = 0 := hc22
    have hf1 : fi.toInt + (1 - 1 : Nat) ≤ 2147483647 := hfi.2
    show Go p e below _ T1 (mkF m 25 #[.val (.int xa), .val (.int xb), .val (.int (0 : Int32)), .val (.int (1 : Int32)), .val (.int fi), .unset, .unset, .unset, .unset, .unset, .unset, .unset] [])
    refine Go.of (fun _ kz => XS.iconst X1.here hx rfl (hb hby at_25) kz) ?_
    show Go p e below _ T1 (mkF m 26 #[.val (.int xa), .val (.int xb), .val (.int (0 : Int32)), .val (.int (1 : Int32)), .val (.int fi), .unset, .unset, .unset, .unset, .unset, .unset, .unset] [(.int (1 : Int32))])
    refine Go.newarrE X1 hx hZ (ad := "[D") (by decide) (hw _ (List.mem_of_getElem? (i := 5) rfl)) e1 1 (by decide) (by decide) (by decide) (by decide) (by decide) (hb hby at_26) fun T2 h2 b2 k2 g2 X2 e2 E2 V2 A2 => ?_
    have ge_b2 : h0.size ≤ b2 := g2 ▸ (Nat.le_refl _)
    have sz2 : h0.size ≤ h2.size := Nat.le_trans (Nat.le_refl _) E2.1
    have hk2 : 0 ≤ h2.size := Nat.le_trans hk E2.1
    have V2 : Arv Z h2 b2 k2 .double (1 : Int32) [(.double 0)] (.double 0) := V2
    show Go p e below _ T2 (mkF m 28 #[.val (.int xa), .val (.int xb), .val (.int (0 : Int32)), .val (.int (1 : Int32)), .val (.int fi), .unset, .unset, .unset, .unset, .unset, .unset, .unset] [(.ref b2)])
    refine Go.of (fun _ kz => XS.dup X2.here hx rfl (hb hby at_28) rfl rfl kz) ?_
    show Go p e below _ T2 (mkF m 29 #[.val (.int xa), .val (.int xb), .val (.int (0 : Int32)), .val (.int (1 : Int32)), .val (.int fi), .unset, .unset, .unset, .unset, .unset, .unset, .unset] [(.ref b2), (.ref b2)])
    refine Go.of (fun _ kz => XS.iconst X2.here hx rfl (hb hby at_29) kz) ?_
    show Go p e below _ T2 (mkF m 30 #[.val (.int xa), .val (.int xb), .val (.int (0 : Int32)), .val (.int (1 : Int32)), .val (.int fi), .unset, .unset, .unset, .unset, .unset, .unset, .unset] [(.int (0 : Int32)), (.ref b2), (.ref b2)])
    refine Go.of (X2.ldc2DoubleC hx hown (mvT hZ (hw _ (List.mem_of_getElem? (i := 7) rfl))) (g := (mkF m 30 #[.val (.int xa), .val (.int xb), .val (.int (0 : Int32)), .val (.int (1 : Int32)), .val (.int fi), .unset, .unset, .unset, .unset, .unset, .unset, .unset] [(.int (0 : Int32)), (.ref b2), (.ref b2)])) rfl (hb hby at_30)) ?_
    show Go p e below _ T2 (mkF m 33 #[.val (.int xa), .val (.int xb), .val (.int (0 : Int32)), .val (.int (1 : Int32)), .val (.int fi), .unset, .unset, .unset, .unset, .unset, .unset, .unset] [(.double (4602678819172646912 : UInt64)), (.int (0 : Int32)), (.ref b2), (.ref b2)])
    refine Go.dastore X2 hx hZ e2 V2 ⟨by decide, by decide⟩ 0 rfl (Nat.le_of_ble_eq_true rfl) (hb hby at_33) fun T3 h3 X3 e3 W3 V3 => ?_
    have sz3 : h0.size ≤ h3.size := Nat.le_trans sz2 (Keep.of_wr W3).1
    have hk3 : 0 ≤ h3.size := Nat.le_trans hk2 (Keep.of_wr W3).1
    have N3 := Fr.snoc X3 (Fr.nil _) ge_b2
    have V3 : Arv Z h3 b2 k2 .double (1 : Int32) [(.double (4602678819172646912 : UInt64))] (.double 0) := V3
    show Go p e below _ T3 (mkF m 34 #[.val (.int xa), .val (.int xb), .val (.int (0 : Int32)), .val (.int (1 : Int32)), .val (.int fi), .unset, .unset, .unset, .unset, .unset, .unset, .unset] [(.ref b2)])
    refine Go.of (fun _ kz => XS.astore X3.here hx rfl (hb hby at_34) rfl rfl (l' := #[.val (.int xa), .val (.int xb), .val (.int (0 : Int32)), .val (.int (1 : Int32)), .val (.int fi), .val (.ref b2), .unset, .unset, .unset, .unset, .unset, .unset]) rfl kz) ?_
    show Go p e below _ T3 (mkF m 36 #[.val (.int xa), .val (.int xb), .val (.int (0 : Int32)), .val (.int (1 : Int32)), .val (.int fi), .val (.ref b2), .unset, .unset, .unset, .unset, .unset, .unset] [])
    refine Go.of (X3.ldc2DoubleC hx hown (mvT hZ (hw _ (List.mem_of_getElem? (i := 7) rfl))) (g := (mkF m 36 #[.val (.int xa), .val (.int xb), .val (.int (0 : Int32)), .val (.int (1 : Int32)), .val (.int fi), .val (.ref b2), .unset, .unset, .unset, .unset, .unset, .unset] [])) rfl (hb hby at_36)) ?_
    show Go p e below _ T3 (mkF m 39 #[.val (.int xa), .val (.int xb), .val (.int (0 : Int32)), .val (.int (1 : Int32)), .val (.int fi), .val (.ref b2), .unset, .unset, .unset, .unset, .unset, .unset] [(.double (4602678819172646912 : UInt64))])
    refine Go.of (fun _ kz => XS.dstore X3.here hx rfl (hb hby at_39) rfl (l' := #[.val (.int xa), .val (.int xb), .val (.int (0 : Int32)), .val (.int (1 : Int32)), .val (.int fi), .val (.ref b2), .val (.double (4602678819172646912 : UInt64)), .second, .unset, .unset, .unset, .unset]) rfl kz) ?_
    show Go p e below _ T3 (mkF m 41 #[.val (.int xa), .val (.int xb), .val (.int (0 : Int32)), .val (.int (1 : Int32)), .val (.int fi), .val (.ref b2), .val (.double (4602678819172646912 : UInt64)), .second, .unset, .unset, .unset, .unset] [])
    refine Go.of (fun _ kz => XS.goto X3.here hx rfl (pc0 := 41) (pc' := 136) rfl (hb hby at_41) (by decide) (by decide) kz) ?_
    show Go p e below _ T3 (mkF m 136 #[.val (.int xa), .val (.int xb), .val (.int (0 : Int32)), .val (.int (1 : Int32)), .val (.int fi), .val (.ref b2), .val (.double (4602678819172646912 : UInt64)), .second, .unset, .unset, .unset, .unset] [])
    refine Go.new X3 hx hZ hown (hw _ (List.mem_of_getElem? (i := 9) rfl)) (hw _ (List.mem_of_getElem? (i := 10) rfl)) (hw _ (List.mem_of_getElem? (i := 11) rfl)) e3 (hb hby at_136) (by decide) (by decide) fun T4 h4 b4 g4 X4 e4 E4 A4 D4 => ?_
    have lt_b2_b4 : b2 < b4 := Nat.lt_of_lt_of_le V3.lt (Nat.le_of_eq g4.symm)
    have ge_b4 : h0.size ≤ b4 := g4 ▸ sz3
    have sz4 : h0.size ≤ h4.size := Nat.le_trans sz3 E4.1
    have hk4 : 0 ≤ h4.size := Nat.le_trans hk3 E4.1
    have F4_name : Fld Z h4 b4 "com/example/vestry/vestry/actuarial/MortalityTable" "name" "Ljava/lang/String;" .null := D4 (Or.inr (hw _ (List.mem_of_getElem? (i := 33) rfl))) (ty := (.object "java/lang/String")) (by decide)
    have F4_minimumAge : Fld Z h4 b4 "com/example/vestry/vestry/actuarial/MortalityTable" "minimumAge" "I" (.int (0 : Int32)) := D4 (Or.inr (hw _ (List.mem_of_getElem? (i := 35) rfl))) (ty := .int) (by decide)
    have F4_rates : Fld Z h4 b4 "com/example/vestry/vestry/actuarial/MortalityTable" "rates" "[D" .null := D4 (Or.inr (hw _ (List.mem_of_getElem? (i := 46) rfl))) (ty := (.array .double)) (by decide)
    show Go p e below _ T4 (mkF m 139 #[.val (.int xa), .val (.int xb), .val (.int (0 : Int32)), .val (.int (1 : Int32)), .val (.int fi), .val (.ref b2), .val (.double (4602678819172646912 : UInt64)), .second, .unset, .unset, .unset, .unset] [(.ref b4)])
    refine Go.of (fun _ kz => XS.dup X4.here hx rfl (hb hby at_139) rfl rfl kz) ?_
    show Go p e below _ T4 (mkF m 140 #[.val (.int xa), .val (.int xb), .val (.int (0 : Int32)), .val (.int (1 : Int32)), .val (.int fi), .val (.ref b2), .val (.double (4602678819172646912 : UInt64)), .second, .unset, .unset, .unset, .unset] [(.ref b4), (.ref b4)])
    refine Go.ldcS X4 hx hZ hown (hw _ (List.mem_of_getElem? (i := 12) rfl)) wS e4 hS hk4 (hb hby at_140) 4 (by decide) (by decide) (by decide) (by decide) fun b5 T5 h5 k5 X5 e5 E5 hS hk5 hZ hown => ?_
    have sz5 : h0.size ≤ h5.size := Nat.le_trans sz4 E5.1
    show Go p e below _ T5 (mkF m 142 #[.val (.int xa), .val (.int xb), .val (.int (0 : Int32)), .val (.int (1 : Int32)), .val (.int fi), .val (.ref b2), .val (.double (4602678819172646912 : UInt64)), .second, .unset, .unset, .unset, .unset] [(.ref b5), (.ref b4), (.ref b4)])
    refine Go.of (fun _ kz => XS.iload X5.here hx rfl (hb hby at_142) rfl kz) ?_
    show Go p e below _ T5 (mkF m 144 #[.val (.int xa), .val (.int xb), .val (.int (0 : Int32)), .val (.int (1 : Int32)), .val (.int fi), .val (.ref b2), .val (.double (4602678819172646912 : UInt64)), .second, .unset, .unset, .unset, .unset] [(.int fi), (.ref b5), (.ref b4), (.ref b4)])
    refine Go.of (fun _ kz => XS.aload X5.here hx rfl (hb hby at_144) rfl rfl kz) ?_
    show Go p e below _ T5 (mkF m 146 #[.val (.int xa), .val (.int xb), .val (.int (0 : Int32)), .val (.int (1 : Int32)), .val (.int fi), .val (.ref b2), .val (.double (4602678819172646912 : UInt64)), .second, .unset, .unset, .unset, .unset] [(.ref b2), (.int fi), (.ref b5), (.ref b4), (.ref b4)])
    refine Go.callIW (W := 1) (y := (⟨"com/example/vestry/vestry/actuarial/MortalityTable", "<init>", "(Ljava/lang/String;I[D)V"⟩ : MethodName)) (a := b4) (argsL := [(.ref b5), (.int fi), (.ref b2)]) (rest := [(.ref b4)]) X5 hx hZ rfl hown (hw _ (List.mem_of_getElem? (i := 20) rfl)) (hw _ (List.mem_of_getElem? (i := 21) rfl)) (hw _ (List.mem_of_getElem? (i := 11) rfl)) (hw _ (List.mem_of_getElem? (i := 22) rfl)) (by decide) (own_rmC1 l Z a0 hw b4 b5 fi b2 k2 h0.size h5 sz5 ge_b4 ge_b2 (Nat.ne_of_lt lt_b2_b4) (own_nn hfi.1) (own_cmpL (by rw [own_long (n := 1) rfl (by decide)]; show _ ≤ (2147483647 : Int); omega)) (A4.ext E5) (F4_name.ext E5) (F4_minimumAge.ext E5) (F4_rates.ext E5) ((V3.ext E4).ext E5) (((A2.wr W3).ext E4).ext E5)) e5 hS hk5 (by rw [hml]; rfl) (lenOf own_dsc4 rfl) (hb hby at_146) rfl (Nat.le_of_eq rfl) (by decide) (by decide) (by decide) (by decide) fun _ T6 L6 X6 hS hZ hown q6 => ?_
    obtain ⟨rfl, N6q, K6, A6, FM6, bb6, kb6, FR6, gb6, VB6⟩ := q6
    have N6 := Fr.app N3 N6q
    have sz6 : h0.size ≤ T6.heap.size := Nat.le_trans sz5 K6.1
    show Go p e below _ T6 (mkF m 149 #[.val (.int xa), .val (.int xb), .val (.int (0 : Int32)), .val (.int (1 : Int32)), .val (.int fi), .val (.ref b2), .val (.double (4602678819172646912 : UInt64)), .second, .unset, .unset, .unset, .unset] [(.ref b4)])
    refine Go.of (fun _ kz => XS.astore X6.here hx rfl (hb hby at_149) rfl rfl (l' := #[.val (.int xa), .val (.int xb), .val (.int (0 : Int32)), .val (.int (1 : Int32)), .val (.int fi), .val (.ref b2), .val (.double (4602678819172646912 : UInt64)), .second, .val (.ref b4), .unset, .unset, .unset]) rfl kz) ?_
    show Go p e below _ T6 (mkF m 151 #[.val (.int xa), .val (.int xb), .val (.int (0 : Int32)), .val (.int (1 : Int32)), .val (.int fi), .val (.ref b2), .val (.double (4602678819172646912 : UInt64)), .second, .val (.ref b4), .unset, .unset, .unset] [])
    refine Go.of (fun _ kz => XS.iload X6.here hx rfl (hb hby at_151) rfl kz) ?_
    show Go p e below _ T6 (mkF m 153 #[.val (.int xa), .val (.int xb), .val (.int (0 : Int32)), .val (.int (1 : Int32)), .val (.int fi), .val (.ref b2), .val (.double (4602678819172646912 : UInt64)), .second, .val (.ref b4), .unset, .unset, .unset] [(.int fi)])
    refine Go.of (fun _ kz => XS.i2l X6.here hx rfl (hb hby at_153) rfl kz) ?_
    show Go p e below _ T6 (mkF m 154 #[.val (.int xa), .val (.int xb), .val (.int (0 : Int32)), .val (.int (1 : Int32)), .val (.int fi), .val (.ref b2), .val (.double (4602678819172646912 : UInt64)), .second, .val (.ref b4), .unset, .unset, .unset] [(.long (fi.toInt64))])
    refine Go.of (fun _ kz => XS.iloadN X6.here hx rfl (hb hby at_154) rfl kz) ?_
    show Go p e below _ T6 (mkF m 155 #[.val (.int xa), .val (.int xb), .val (.int (0 : Int32)), .val (.int (1 : Int32)), .val (.int fi), .val (.ref b2), .val (.double (4602678819172646912 : UInt64)), .second, .val (.ref b4), .unset, .unset, .unset] [(.int (1 : Int32)), (.long (fi.toInt64))])
    refine Go.of (fun _ kz => XS.i2l X6.here hx rfl (hb hby at_155) rfl kz) ?_
    show Go p e below _ T6 (mkF m 156 #[.val (.int xa), .val (.int xb), .val (.int (0 : Int32)), .val (.int (1 : Int32)), .val (.int fi), .val (.ref b2), .val (.double (4602678819172646912 : UInt64)), .second, .val (.ref b4), .unset, .unset, .unset] [(.long (1 : Int64)), (.long (fi.toInt64))])
    refine Go.of (fun _ kz => XS.ladd X6.here hx rfl (hb hby at_156) rfl kz) ?_
    show Go p e below _ T6 (mkF m 157 #[.val (.int xa), .val (.int xb), .val (.int (0 : Int32)), .val (.int (1 : Int32)), .val (.int fi), .val (.ref b2), .val (.double (4602678819172646912 : UInt64)), .second, .val (.ref b4), .unset, .unset, .unset] [(.long ((fi.toInt64) + (1 : Int64)))])
    refine Go.of (fun _ kz => XS.lconst X6.here hx rfl (hb hby at_157) kz) ?_
    show Go p e below _ T6 (mkF m 158 #[.val (.int xa), .val (.int xb), .val (.int (0 : Int32)), .val (.int (1 : Int32)), .val (.int fi), .val (.ref b2), .val (.double (4602678819172646912 : UInt64)), .second, .val (.ref b4), .unset, .unset, .unset] [(.long (1 : Int64)), (.long ((fi.toInt64) + (1 : Int64)))])
    refine Go.of (fun _ kz => XS.lsub X6.here hx rfl (hb hby at_158) rfl kz) ?_
    show Go p e below _ T6 (mkF m 159 #[.val (.int xa), .val (.int xb), .val (.int (0 : Int32)), .val (.int (1 : Int32)), .val (.int fi), .val (.ref b2), .val (.double (4602678819172646912 : UInt64)), .second, .val (.ref b4), .unset, .unset, .unset] [(.long (((fi.toInt64) + (1 : Int64)) - (1 : Int64)))])
    refine Go.of (fun _ kz => XS.lstore X6.here hx rfl (hb hby at_159) rfl (l' := #[.val (.int xa), .val (.int xb), .val (.int (0 : Int32)), .val (.int (1 : Int32)), .val (.int fi), .val (.ref b2), .val (.double (4602678819172646912 : UInt64)), .second, .val (.ref b4), .val (.long (((fi.toInt64) + (1 : Int64)) - (1 : Int64))), .second, .unset]) rfl kz) ?_
    show Go p e below _ T6 (mkF m 161 #[.val (.int xa), .val (.int xb), .val (.int (0 : Int32)), .val (.int (1 : Int32)), .val (.int fi), .val (.ref b2), .val (.double (4602678819172646912 : UInt64)), .second, .val (.ref b4), .val (.long (((fi.toInt64) + (1 : Int64)) - (1 : Int64))), .second, .unset] [])
    refine Go.of (fun _ kz => XS.aload X6.here hx rfl (hb hby at_161) rfl rfl kz) ?_
    show Go p e below _ T6 (mkF m 163 #[.val (.int xa), .val (.int xb), .val (.int (0 : Int32)), .val (.int (1 : Int32)), .val (.int fi), .val (.ref b2), .val (.double (4602678819172646912 : UInt64)), .second, .val (.ref b4), .val (.long (((fi.toInt64) + (1 : Int64)) - (1 : Int64))), .second, .unset] [(.ref b4)])
    refine Go.callVP (W := 0) (y := (⟨"com/example/vestry/vestry/actuarial/MortalityTable", "maximumAge", "()I"⟩ : MethodName)) (z := (⟨"com/example/vestry/vestry/actuarial/MortalityTable", "maximumAge", "()I"⟩ : MethodName)) (a := b4) (argsL := []) (rest := []) (r := some (.int ((fi + (1 : Int32)) - (1 : Int32)))) X6 hx hZ hown (hw _ (List.mem_of_getElem? (i := 47) rfl)) (hw _ (List.mem_of_getElem? (i := 48) rfl)) (notFace_of_selects (args := #[]) (mvT hZ (hw _ (List.mem_of_getElem? (i := 50) rfl)))) (hw _ (List.mem_of_getElem? (i := 50) rfl)) (hw _ (List.mem_of_getElem? (i := 49) rfl)) (hw _ (List.mem_of_getElem? (i := 11) rfl)) (hw _ (List.mem_of_getElem? (i := 51) rfl)) (by decide) (own_rmMax l Z a0 hw b4 bb6 fi (1 : Int32) kb6 [(.double (4602678819172646912 : UInt64))] (.double 0) T6.heap A6 FM6 FR6 VB6) rfl A6 (by rw [hml]; rfl) (lenOf own_dsc1 rfl) (hb hby at_163) rfl (Nat.le_of_eq rfl) (by decide) (by decide) (by decide) (by decide) fun T7 X7 e7 => ?_
    show Go p e below _ T7 (mkF m 166 #[.val (.int xa), .val (.int xb), .val (.int (0 : Int32)), .val (.int (1 : Int32)), .val (.int fi), .val (.ref b2), .val (.double (4602678819172646912 : UInt64)), .second, .val (.ref b4), .val (.long (((fi.toInt64) + (1 : Int64)) - (1 : Int64))), .second, .unset] [(.int ((fi + (1 : Int32)) - (1 : Int32)))])
    refine Go.of (fun _ kz => XS.istore X7.here hx rfl (hb hby at_166) rfl (l' := #[.val (.int xa), .val (.int xb), .val (.int (0 : Int32)), .val (.int (1 : Int32)), .val (.int fi), .val (.ref b2), .val (.double (4602678819172646912 : UInt64)), .second, .val (.ref b4), .val (.long (((fi.toInt64) + (1 : Int64)) - (1 : Int64))), .second, .val (.int ((fi + (1 : Int32)) - (1 : Int32)))]) rfl kz) ?_
    show Go p e below _ T7 (mkF m 168 #[.val (.int xa), .val (.int xb), .val (.int (0 : Int32)), .val (.int (1 : Int32)), .val (.int fi), .val (.ref b2), .val (.double (4602678819172646912 : UInt64)), .second, .val (.ref b4), .val (.long (((fi.toInt64) + (1 : Int64)) - (1 : Int64))), .second, .val (.int ((fi + (1 : Int32)) - (1 : Int32)))] [])
    refine Go.of (fun _ kz => XS.iload X7.here hx rfl (hb hby at_168) rfl kz) ?_
    show Go p e below _ T7 (mkF m 170 #[.val (.int xa), .val (.int xb), .val (.int (0 : Int32)), .val (.int (1 : Int32)), .val (.int fi), .val (.ref b2), .val (.double (4602678819172646912 : UInt64)), .second, .val (.ref b4), .val (.long (((fi.toInt64) + (1 : Int64)) - (1 : Int64))), .second, .val (.int ((fi + (1 : Int32)) - (1 : Int32)))] [(.int ((fi + (1 : Int32)) - (1 : Int32)))])
    refine Go.of (fun _ kz => XS.i2l X7.here hx rfl (hb hby at_170) rfl kz) ?_
    show Go p e below _ T7 (mkF m 171 #[.val (.int xa), .val (.int xb), .val (.int (0 : Int32)), .val (.int (1 : Int32)), .val (.int fi), .val (.ref b2), .val (.double (4602678819172646912 : UInt64)), .second, .val (.ref b4), .val (.long (((fi.toInt64) + (1 : Int64)) - (1 : Int64))), .second, .val (.int ((fi + (1 : Int32)) - (1 : Int32)))] [(.long (((fi + (1 : Int32)) - (1 : Int32)).toInt64))])
    refine Go.of (fun _ kz => XS.lload X7.here hx rfl (hb hby at_171) rfl kz) ?_
    show Go p e below _ T7 (mkF m 173 #[.val (.int xa), .val (.int xb), .val (.int (0 : Int32)), .val (.int (1 : Int32)), .val (.int fi), .val (.ref b2), .val (.double (4602678819172646912 : UInt64)), .second, .val (.ref b4), .val (.long (((fi.toInt64) + (1 : Int64)) - (1 : Int64))), .second, .val (.int ((fi + (1 : Int32)) - (1 : Int32)))] [(.long (((fi.toInt64) + (1 : Int64)) - (1 : Int64))), (.long (((fi + (1 : Int32)) - (1 : Int32)).toInt64))])
    refine Go.of (fun _ kz => XS.lcmp X7.here hx rfl (hb hby at_173) rfl kz) ?_
    show Go p e below _ T7 (mkF m 174 #[.val (.int xa), .val (.int xb), .val (.int (0 : Int32)), .val (.int (1 : Int32)), .val (.int fi), .val (.ref b2), .val (.double (4602678819172646912 : UInt64)), .second, .val (.ref b4), .val (.long (((fi.toInt64) + (1 : Int64)) - (1 : Int64))), .second, .val (.int ((fi + (1 : Int32)) - (1 : Int32)))] [(.int (XS.cmpL (((fi + (1 : Int32)) - (1 : Int32)).toInt64) (((fi.toInt64) + (1 : Int64)) - (1 : Int64))))])
    refine Go.of (fun _ kz => XS.ifNo X7.here hx rfl (hb hby at_174) rfl ((if0 _ _).trans (teq (own_cmp0 (own_same (n := 1) hfi.1 rfl rfl (by decide) (by decide) hf1) : (XS.cmpL (((fi + (1 : Int32)) - (1 : Int32)).toInt64) (((fi.toInt64) + (1 : Int64)) - (1 : Int64))) = (0 : Int32))).2) kz) ?_
    show Go p e below _ T7 (mkF m 177 #[.val (.int xa), .val (.int xb), .val (.int (0 : Int32)), .val (.int (1 : Int32)), .val (.int fi), .val (.ref b2), .val (.double (4602678819172646912 : UInt64)), .second, .val (.ref b4), .val (.long (((fi.toInt64) + (1 : Int64)) - (1 : Int64))), .second, .val (.int ((fi + (1 : Int32)) - (1 : Int32)))] [])
    refine Go.of (fun _ kz => XS.iload X7.here hx rfl (hb hby at_177) rfl kz) ?_
    show Go p e below _ T7 (mkF m 179 #[.val (.int xa), .val (.int xb), .val (.int (0 : Int32)), .val (.int (1 : Int32)), .val (.int fi), .val (.ref b2), .val (.double (4602678819172646912 : UInt64)), .second, .val (.ref b4), .val (.long (((fi.toInt64) + (1 : Int64)) - (1 : Int64))), .second, .val (.int ((fi + (1 : Int32)) - (1 : Int32)))] [(.int ((fi + (1 : Int32)) - (1 : Int32)))])
    refine Go.of (fun _ kz => XS.aload X7.here hx rfl (hb hby at_179) rfl rfl kz) ?_
    show Go p e below _ T7 (mkF m 181 #[.val (.int xa), .val (.int xb), .val (.int (0 : Int32)), .val (.int (1 : Int32)), .val (.int fi), .val (.ref b2), .val (.double (4602678819172646912 : UInt64)), .second, .val (.ref b4), .val (.long (((fi.toInt64) + (1 : Int64)) - (1 : Int64))), .second, .val (.int ((fi + (1 : Int32)) - (1 : Int32)))] [(.ref b4), (.int ((fi + (1 : Int32)) - (1 : Int32)))])
    refine Go.callVP (W := 1) (y := (⟨"com/example/vestry/vestry/actuarial/MortalityTable", "minimumAge", "()I"⟩ : MethodName)) (z := (⟨"com/example/vestry/vestry/actuarial/MortalityTable", "minimumAge", "()I"⟩ : MethodName)) (a := b4) (argsL := []) (rest := [(.int ((fi + (1 : Int32)) - (1 : Int32)))]) (r := some (.int fi)) X7 hx hZ hown (hw _ (List.mem_of_getElem? (i := 52) rfl)) (hw _ (List.mem_of_getElem? (i := 53) rfl)) (notFace_of_selects (args := #[]) (mvT hZ (hw _ (List.mem_of_getElem? (i := 55) rfl)))) (hw _ (List.mem_of_getElem? (i := 55) rfl)) (hw _ (List.mem_of_getElem? (i := 54) rfl)) (hw _ (List.mem_of_getElem? (i := 11) rfl)) (hw _ (List.mem_of_getElem? (i := 56) rfl)) (by decide) (own_rmMn l Z a0 hw b4 bb6 fi (1 : Int32) kb6 [(.double (4602678819172646912 : UInt64))] (.double 0) T6.heap A6 FM6 FR6 VB6) e7 A6 (by rw [hml]; rfl) (lenOf own_dsc1 rfl) (hb hby at_181) rfl (Nat.le_of_eq rfl) (by decide) (by decide) (by decide) (by decide) fun T8 X8 e8 => ?_
    show Go p e below _ T8 (mkF m 184 #[.val (.int xa), .val (.int xb), .val (.int (0 : Int32)), .val (.int (1 : Int32)), .val (.int fi), .val (.ref b2), .val (.double (4602678819172646912 : UInt64)), .second, .val (.ref b4), .val (.long (((fi.toInt64) + (1 : Int64)) - (1 : Int64))), .second, .val (.int ((fi + (1 : Int32)) - (1 : Int32)))] [(.int fi), (.int ((fi + (1 : Int32)) - (1 : Int32)))])
    refine Go.of (fun _ kz => XS.icmpNo X8.here hx rfl (hb hby at_184) rfl (flt (own_ge (n := 1) hfi.1 rfl (by decide) hf1)).1 kz) ?_
    show Go p e below _ T8 (mkF m 187 #[.val (.int xa), .val (.int xb), .val (.int (0 : Int32)), .val (.int (1 : Int32)), .val (.int fi), .val (.ref b2), .val (.double (4602678819172646912 : UInt64)), .second, .val (.ref b4), .val (.long (((fi.toInt64) + (1 : Int64)) - (1 : Int64))), .second, .val (.int ((fi + (1 : Int32)) - (1 : Int32)))] [])
    refine Go.of (fun _ kz => XS.aload X8.here hx rfl (hb hby at_187) rfl rfl kz) ?_
    show Go p e below _ T8 (mkF m 189 #[.val (.int xa), .val (.int xb), .val (.int (0 : Int32)), .val (.int (1 : Int32)), .val (.int fi), .val (.ref b2), .val (.double (4602678819172646912 : UInt64)), .second, .val (.ref b4), .val (.long (((fi.toInt64) + (1 : Int64)) - (1 : Int64))), .second, .val (.int ((fi + (1 : Int32)) - (1 : Int32)))] [(.ref b4)])
    refine Go.of (fun _ kz => XS.iload X8.here hx rfl (hb hby at_189) rfl kz) ?_
    show Go p e below _ T8 (mkF m 191 #[.val (.int xa), .val (.int xb), .val (.int (0 : Int32)), .val (.int (1 : Int32)), .val (.int fi), .val (.ref b2), .val (.double (4602678819172646912 : UInt64)), .second, .val (.ref b4), .val (.long (((fi.toInt64) + (1 : Int64)) - (1 : Int64))), .second, .val (.int ((fi + (1 : Int32)) - (1 : Int32)))] [(.int ((fi + (1 : Int32)) - (1 : Int32))), (.ref b4)])
    refine Go.callVP (W := 0) (y := (⟨"com/example/vestry/vestry/actuarial/MortalityTable", "rate", "(I)D"⟩ : MethodName)) (z := (⟨"com/example/vestry/vestry/actuarial/MortalityTable", "rate", "(I)D"⟩ : MethodName)) (a := b4) (argsL := [(.int ((fi + (1 : Int32)) - (1 : Int32)))]) (rest := []) (r := some (.double (4602678819172646912 : UInt64))) X8 hx hZ hown (hw _ (List.mem_of_getElem? (i := 57) rfl)) (hw _ (List.mem_of_getElem? (i := 58) rfl)) (notFace_of_selects (args := #[]) (mvT hZ (hw _ (List.mem_of_getElem? (i := 60) rfl)))) (hw _ (List.mem_of_getElem? (i := 60) rfl)) (hw _ (List.mem_of_getElem? (i := 59) rfl)) (hw _ (List.mem_of_getElem? (i := 11) rfl)) (hw _ (List.mem_of_getElem? (i := 61) rfl)) (by decide) (own_rmRa l Z a0 hw b4 bb6 fi (1 : Int32) kb6 [(.double (4602678819172646912 : UInt64))] (.double 0) (4602678819172646912 : UInt64) T6.heap A6 FM6 FR6 VB6 (own_ge (n := 1) hfi.1 rfl (by decide) hf1) (by decide) rfl) e8 A6 (by rw [hml]; rfl) (lenOf own_dsc5 rfl) (hb hby at_191) rfl (Nat.le_of_eq rfl) (by decide) (by decide) (by decide) (by decide) fun T9 X9 e9 => ?_
    show Go p e below _ T9 (mkF m 194 #[.val (.int xa), .val (.int xb), .val (.int (0 : Int32)), .val (.int (1 : Int32)), .val (.int fi), .val (.ref b2), .val (.double (4602678819172646912 : UInt64)), .second, .val (.ref b4), .val (.long (((fi.toInt64) + (1 : Int64)) - (1 : Int64))), .second, .val (.int ((fi + (1 : Int32)) - (1 : Int32)))] [(.double (4602678819172646912 : UInt64))])
    refine Go.of (fun _ kz => XS.dload X9.here hx rfl (hb hby at_194) rfl kz) ?_
    show Go p e below _ T9 (mkF m 196 #[.val (.int xa), .val (.int xb), .val (.int (0 : Int32)), .val (.int (1 : Int32)), .val (.int fi), .val (.ref b2), .val (.double (4602678819172646912 : UInt64)), .second, .val (.ref b4), .val (.long (((fi.toInt64) + (1 : Int64)) - (1 : Int64))), .second, .val (.int ((fi + (1 : Int32)) - (1 : Int32)))] [(.double (4602678819172646912 : UInt64)), (.double (4602678819172646912 : UInt64))])
    refine Go.of (fun _ kz => XS.dcmpS X9.here hx rfl (hb hby at_196) rfl rfl kz) ?_
    show Go p e below _ T9 (mkF m 197 #[.val (.int xa), .val (.int xb), .val (.int (0 : Int32)), .val (.int (1 : Int32)), .val (.int fi), .val (.ref b2), .val (.double (4602678819172646912 : UInt64)), .second, .val (.ref b4), .val (.long (((fi.toInt64) + (1 : Int64)) - (1 : Int64))), .second, .val (.int ((fi + (1 : Int32)) - (1 : Int32)))] [(.int (cmpValue (FP.dcmp (4602678819172646912 : UInt64) (4602678819172646912 : UInt64)) .l))])
    refine Go.of (fun _ kz => XS.ifNo X9.here hx rfl (hb hby at_197) rfl ((if0 _ _).trans (teq (by decide +kernel : (cmpValue (FP.dcmp (4602678819172646912 : UInt64) (4602678819172646912 : UInt64)) .l) = (0 : Int32))).2) kz) ?_
    show Go p e below _ T9 (mkF m 200 #[.val (.int xa), .val (.int xb), .val (.int (0 : Int32)), .val (.int (1 : Int32)), .val (.int fi), .val (.ref b2), .val (.double (4602678819172646912 : UInt64)), .second, .val (.ref b4), .val (.long (((fi.toInt64) + (1 : Int64)) - (1 : Int64))), .second, .val (.int ((fi + (1 : Int32)) - (1 : Int32)))] [])
    refine Go.of (fun _ kz => XS.iconst X9.here hx rfl (hb hby at_200) kz) ?_
    show Go p e below _ T9 (mkF m 201 #[.val (.int xa), .val (.int xb), .val (.int (0 : Int32)), .val (.int (1 : Int32)), .val (.int fi), .val (.ref b2), .val (.double (4602678819172646912 : UInt64)), .second, .val (.ref b4), .val (.long (((fi.toInt64) + (1 : Int64)) - (1 : Int64))), .second, .val (.int ((fi + (1 : Int32)) - (1 : Int32)))] [(.int (1 : Int32))])
    refine Go.of (fun _ kz => XS.goto X9.here hx rfl (pc0 := 201) (pc' := 205) rfl (hb hby at_201) (by decide) (by decide) kz) ?_
    show Go p e below _ T9 (mkF m 205 #[.val (.int xa), .val (.int xb), .val (.int (0 : Int32)), .val (.int (1 : Int32)), .val (.int fi), .val (.ref b2), .val (.double (4602678819172646912 : UInt64)), .second, .val (.ref b4), .val (.long (((fi.toInt64) + (1 : Int64)) - (1 : Int64))), .second, .val (.int ((fi + (1 : Int32)) - (1 : Int32)))] [(.int (1 : Int32))])
    exact Go.retNW X9 hx hS (by rw [e9]; exact (Nat.le_refl _)) hlk (t := .boolean) hret (by simp) (hb hby at_205) (by decide) (by decide) ⟨rfl, N6⟩
  ·
    refine Go.of (fun _ kz => XS.ifYes X1.here hx rfl (pc0 := 22) (pc' := 44) rfl (hb hby at_22) rfl ((if0 _ _).trans (feq hc22).2) (by decide) (by decide) kz) ?_
    show Go p e below _ T1 (mkF m 44 #[.val (.int xa), .val (.int xb), .val (.int kk), .val (.int (kk + (1 : Int32))), .val (.int fi), .unset, .unset, .unset, .unset, .unset, .unset, .unset] [])
    refine Go.of (fun _ kz => XS.iloadN X1.here hx rfl (hb hby at_44) rfl kz) ?_
    show Go p e below _ T1 (mkF m 45 #[.val (.int xa), .val (.int xb), .val (.int kk), .val (.int (kk + (1 : Int32))), .val (.int fi), .unset, .unset, .unset, .unset, .unset, .unset, .unset] [(.int kk)])
    refine Go.of (fun _ kz => XS.iconst X1.here hx rfl (hb hby at_45) kz) ?_
    show Go p e below _ T1 (mkF m 46 #[.val (.int xa), .val (.int xb), .val (.int kk), .val (.int (kk + (1 : Int32))), .val (.int fi), .unset, .unset, .unset, .unset, .unset, .unset, .unset] [(.int (1 : Int32)), (.int kk)])
    by_cases hc46 : kk = (1 : Int32)
    ·
      refine Go.of (fun _ kz => XS.icmpNo X1.here hx rfl (hb hby at_46) rfl (teq hc46).2 kz) ?_
      show Go p e below _ T1 (mkF m 49 #[.val (.int xa), .val (.int xb), .val (.int kk), .val (.int (kk + (1 : Int32))), .val (.int fi), .unset, .unset, .unset, .unset, .unset, .unset, .unset] [])
      obtain rfl : kk = 1 := hc46
      have hf1 : fi.toInt + (2 - 1 : Nat) ≤ 2147483647 := hfi.2
      show Go p e below _ T1 (mkF m 49 #[.val (.int xa), .val (.int xb), .val (.int (1 : Int32)), .val (.int (2 : Int32)), .val (.int fi), .unset, .unset, .unset, .unset, .unset, .unset, .unset] [])
      refine Go.of (fun _ kz => XS.iconst X1.here hx rfl (hb hby at_49) kz) ?_
      show Go p e below _ T1 (mkF m 50 #[.val (.int xa), .val (.int xb), .val (.int (1 : Int32)), .val (.int (2 : Int32)), .val (.int fi), .unset, .unset, .unset, .unset, .unset, .unset, .unset] [(.int (2 : Int32))])
      refine Go.newarrE X1 hx hZ (ad := "[D") (by decide) (hw _ (List.mem_of_getElem? (i := 5) rfl)) e1 2 (by decide) (by decide) (by decide) (by decide) (by decide) (hb hby at_50) fun T10 h10 b10 k10 g10 X10 e10 E10 V10 A10 => ?_
      have ge_b10 : h0.size ≤ b10 := g10 ▸ (Nat.le_refl _)
      have sz10 : h0.size ≤ h10.size := Nat.le_trans (Nat.le_refl _) E10.1
      have hk10 : 0 ≤ h10.size := Nat.le_trans hk E10.1
      have V10 : Arv Z h10 b10 k10 .double (2 : Int32) [(.double 0), (.double 0)] (.double 0) := V10
      show Go p e below _ T10 (mkF m 52 #[.val (.int xa), .val (.int xb), .val (.int (1 : Int32)), .val (.int (2 : Int32)), .val (.int fi), .unset, .unset, .unset, .unset, .unset, .unset, .unset] [(.ref b10)])
      refine Go.of (fun _ kz => XS.dup X10.here hx rfl (hb hby at_52) rfl rfl kz) ?_
      show Go p e below _ T10 (mkF m 53 #[.val (.int xa), .val (.int xb), .val (.int (1 : Int32)), .val (.int (2 : Int32)), .val (.int fi), .unset, .unset, .unset, .unset, .unset, .unset, .unset] [(.ref b10), (.ref b10)])
      refine Go.of (fun _ kz => XS.iconst X10.here hx rfl (hb hby at_53) kz) ?_
      show Go p e below _ T10 (mkF m 54 #[.val (.int xa), .val (.int xb), .val (.int (1 : Int32)), .val (.int (2 : Int32)), .val (.int fi), .unset, .unset, .unset, .unset, .unset, .unset, .unset] [(.int (0 : Int32)), (.ref b10), (.ref b10)])
      refine Go.of (fun _ kz => XS.dconst0 X10.here hx rfl (hb hby at_54) (v := 0) (by decide +kernel) kz) ?_
      show Go p e below _ T10 (mkF m 55 #[.val (.int xa), .val (.int xb), .val (.int (1 : Int32)), .val (.int (2 : Int32)), .val (.int fi), .unset, .unset, .unset, .unset, .unset, .unset, .unset] [(.double (0 : UInt64)), (.int (0 : Int32)), (.ref b10), (.ref b10)])
      refine Go.dastore X10 hx hZ e10 V10 ⟨by decide, by decide⟩ 0 rfl (Nat.le_of_ble_eq_true rfl) (hb hby at_55) fun T11 h11 X11 e11 W11 V11 => ?_
      have sz11 : h0.size ≤ h11.size := Nat.le_trans sz10 (Keep.of_wr W11).1
      have hk11 : 0 ≤ h11.size := Nat.le_trans hk10 (Keep.of_wr W11).1
      have N11 := Fr.snoc X11 (Fr.nil _) ge_b10
      have V11 : Arv Z h11 b10 k10 .double (2 : Int32) [(.double (0 : UInt64)), (.double 0)] (.double 0) := V11
      show Go p e below _ T11 (mkF m 56 #[.val (.int xa), .val (.int xb), .val (.int (1 : Int32)), .val (.int (2 : Int32)), .val (.int fi), .unset, .unset, .unset, .unset, .unset, .unset, .unset] [(.ref b10)])
      refine Go.of (fun _ kz => XS.dup X11.here hx rfl (hb hby at_56) rfl rfl kz) ?_
      show Go p e below _ T11 (mkF m 57 #[.val (.int xa), .val (.int xb), .val (.int (1 : Int32)), .val (.int (2 : Int32)), .val (.int fi), .unset, .unset, .unset, .unset, .unset, .unset, .unset] [(.ref b10), (.ref b10)])
      refine Go.of (fun _ kz => XS.iconst X11.here hx rfl (hb hby at_57) kz) ?_
      show Go p e below _ T11 (mkF m 58 #[.val (.int xa), .val (.int xb), .val (.int (1 : Int32)), .val (.int (2 : Int32)), .val (.int fi), .unset, .unset, .unset, .unset, .unset, .unset, .unset] [(.int (1 : Int32)), (.ref b10), (.ref b10)])
      refine Go.of (X11.ldc2DoubleC hx hown (mvT hZ (hw _ (List.mem_of_getElem? (i := 68) rfl))) (g := (mkF m 58 #[.val (.int xa), .val (.int xb), .val (.int (1 : Int32)), .val (.int (2 : Int32)), .val (.int fi), .unset, .unset, .unset, .unset, .unset, .unset, .unset] [(.int (1 : Int32)), (.ref b10), (.ref b10)])) rfl (hb hby at_58)) ?_
      show Go p e below _ T11 (mkF m 61 #[.val (.int xa), .val (.int xb), .val (.int (1 : Int32)), .val (.int (2 : Int32)), .val (.int fi), .unset, .unset, .unset, .unset, .unset, .unset, .unset] [(.double (4598175219545276416 : UInt64)), (.int (1 : Int32)), (.ref b10), (.ref b10)])
      refine Go.dastore X11 hx hZ e11 V11 ⟨by decide, by decide⟩ 1 rfl (Nat.le_of_ble_eq_true rfl) (hb hby at_61) fun T12 h12 X12 e12 W12 V12 => ?_
      have sz12 : h0.size ≤ h12.size := Nat.le_trans sz11 (Keep.of_wr W12).1
      have hk12 : 0 ≤ h12.size := Nat.le_trans hk11 (Keep.of_wr W12).1
      have N12 := Fr.snoc X12 N11 ge_b10
      have V12 : Arv Z h12 b10 k10 .double (2 : Int32) [(.double (0 : UInt64)), (.double (4598175219545276416 : UInt64))] (.double 0) := V12
      show Go p e below _ T12 (mkF m 62 #[.val (.int xa), .val (.int xb), .val (.int (1 : Int32)), .val (.int (2 : Int32)), .val (.int fi), .unset, .unset, .unset, .unset, .unset, .unset, .unset] [(.ref b10)])
      refine Go.of (fun _ kz => XS.astore X12.here hx rfl (hb hby at_62) rfl rfl (l' := #[.val (.int xa), .val (.int xb), .val (.int (1 : Int32)), .val (.int (2 : Int32)), .val (.int fi), .val (.ref b10), .unset, .unset, .unset, .unset, .unset, .unset]) rfl kz) ?_
      show Go p e below _ T12 (mkF m 64 #[.val (.int xa), .val (.int xb), .val (.int (1 : Int32)), .val (.int (2 : Int32)), .val (.int fi), .val (.ref b10), .unset, .unset, .unset, .unset, .unset, .unset] [])
      refine Go.of (X12.ldc2DoubleC hx hown (mvT hZ (hw _ (List.mem_of_getElem? (i := 68) rfl))) (g := (mkF m 64 #[.val (.int xa), .val (.int xb), .val (.int (1 : Int32)), .val (.int (2 : Int32)), .val (.int fi), .val (.ref b10), .unset, .unset, .unset, .unset, .unset, .unset] [])) rfl (hb hby at_64)) ?_
      show Go p e below _ T12 (mkF m 67 #[.val (.int xa), .val (.int xb), .val (.int (1 : Int32)), .val (.int (2 : Int32)), .val (.int fi), .val (.ref b10), .unset, .unset, .unset, .unset, .unset, .unset] [(.double (4598175219545276416 : UInt64))])
      refine Go.of (fun _ kz => XS.dstore X12.here hx rfl (hb hby at_67) rfl (l' := #[.val (.int xa), .val (.int xb), .val (.int (1 : Int32)), .val (.int (2 : Int32)), .val (.int fi), .val (.ref b10), .val (.double (4598175219545276416 : UInt64)), .second, .unset, .unset, .unset, .unset]) rfl kz) ?_
      show Go p e below _ T12 (mkF m 69 #[.val (.int xa), .val (.int xb), .val (.int (1 : Int32)), .val (.int (2 : Int32)), .val (.int fi), .val (.ref b10), .val (.double (4598175219545276416 : UInt64)), .second, .unset, .unset, .unset, .unset] [])
      refine Go.of (fun _ kz => XS.goto X12.here hx rfl (pc0 := 69) (pc' := 136) rfl (hb hby at_69) (by decide) (by decide) kz) ?_
      show Go p e below _ T12 (mkF m 136 #[.val (.int xa), .val (.int xb), .val (.int (1 : Int32)), .val (.int (2 : Int32)), .val (.int fi), .val (.ref b10), .val (.double (4598175219545276416 : UInt64)), .second, .unset, .unset, .unset, .unset] [])
      refine Go.new X12 hx hZ hown (hw _ (List.mem_of_getElem? (i := 9) rfl)) (hw _ (List.mem_of_getElem? (i := 10) rfl)) (hw _ (List.mem_of_getElem? (i := 11) rfl)) e12 (hb hby at_136) (by decide) (by decide) fun T13 h13 b13 g13 X13 e13 E13 A13 D13 => ?_
      have lt_b10_b13 : b10 < b13 := Nat.lt_of_lt_of_le V12.lt (Nat.le_of_eq g13.symm)
      have ge_b13 : h0.size ≤ b13 := g13 ▸ sz12
      have sz13 : h0.size ≤ h13.size := Nat.le_trans sz12 E13.1
      have hk13 : 0 ≤ h13.size := Nat.le_trans hk12 E13.1
      have F13_name : Fld Z h13 b13 "com/example/vestry/vestry/actuarial/MortalityTable" "name" "Ljava/lang/String;" .null := D13 (Or.inr (hw _ (List.mem_of_getElem? (i := 33) rfl))) (ty := (.object "java/lang/String")) (by decide)
      have F13_minimumAge : Fld Z h13 b13 "com/example/vestry/vestry/actuarial/MortalityTable" "minimumAge" "I" (.int (0 : Int32)) := D13 (Or.inr (hw _ (List.mem_of_getElem? (i := 35) rfl))) (ty := .int) (by decide)
      have F13_rates : Fld Z h13 b13 "com/example/vestry/vestry/actuarial/MortalityTable" "rates" "[D" .null := D13 (Or.inr (hw _ (List.mem_of_getElem? (i := 46) rfl))) (ty := (.array .double)) (by decide)
      show Go p e below _ T13 (mkF m 139 #[.val (.int xa), .val (.int xb), .val (.int (1 : Int32)), .val (.int (2 : Int32)), .val (.int fi), .val (.ref b10), .val (.double (4598175219545276416 : UInt64)), .second, .unset, .unset, .unset, .unset] [(.ref b13)])
      refine Go.of (fun _ kz => XS.dup X13.here hx rfl (hb hby at_139) rfl rfl kz) ?_
      show Go p e below _ T13 (mkF m 140 #[.val (.int xa), .val (.int xb), .val (.int (1 : Int32)), .val (.int (2 : Int32)), .val (.int fi), .val (.ref b10), .val (.double (4598175219545276416 : UInt64)), .second, .unset, .unset, .unset, .unset] [(.ref b13), (.ref b13)])
      refine Go.ldcS X13 hx hZ hown (hw _ (List.mem_of_getElem? (i := 12) rfl)) wS e13 hS hk13 (hb hby at_140) 4 (by decide) (by decide) (by decide) (by decide) fun b14 T14 h14 k14 X14 e14 E14 hS hk14 hZ hown => ?_
      have sz14 : h0.size ≤ h14.size := Nat.le_trans sz13 E14.1
      show Go p e below _ T14 (mkF m 142 #[.val (.int xa), .val (.int xb), .val (.int (1 : Int32)), .val (.int (2 : Int32)), .val (.int fi), .val (.ref b10), .val (.double (4598175219545276416 : UInt64)), .second, .unset, .unset, .unset, .unset] [(.ref b14), (.ref b13), (.ref b13)])
      refine Go.of (fun _ kz => XS.iload X14.here hx rfl (hb hby at_142) rfl kz) ?_
      show Go p e below _ T14 (mkF m 144 #[.val (.int xa), .val (.int xb), .val (.int (1 : Int32)), .val (.int (2 : Int32)), .val (.int fi), .val (.ref b10), .val (.double (4598175219545276416 : UInt64)), .second, .unset, .unset, .unset, .unset] [(.int fi), (.ref b14), (.ref b13), (.ref b13)])
      refine Go.of (fun _ kz => XS.aload X14.here hx rfl (hb hby at_144) rfl rfl kz) ?_
      show Go p e below _ T14 (mkF m 146 #[.val (.int xa), .val (.int xb), .val (.int (1 : Int32)), .val (.int (2 : Int32)), .val (.int fi), .val (.ref b10), .val (.double (4598175219545276416 : UInt64)), .second, .unset, .unset, .unset, .unset] [(.ref b10), (.int fi), (.ref b14), (.ref b13), (.ref b13)])
      refine Go.callIW (W := 1) (y := (⟨"com/example/vestry/vestry/actuarial/MortalityTable", "<init>", "(Ljava/lang/String;I[D)V"⟩ : MethodName)) (a := b13) (argsL := [(.ref b14), (.int fi), (.ref b10)]) (rest := [(.ref b13)]) X14 hx hZ rfl hown (hw _ (List.mem_of_getElem? (i := 20) rfl)) (hw _ (List.mem_of_getElem? (i := 21) rfl)) (hw _ (List.mem_of_getElem? (i := 11) rfl)) (hw _ (List.mem_of_getElem? (i := 22) rfl)) (by decide) (own_rmC2 l Z a0 hw b13 b14 fi b10 k10 h0.size h14 sz14 ge_b13 ge_b10 (Nat.ne_of_lt lt_b10_b13) (own_nn hfi.1) (own_cmpL (by rw [own_long (n := 2) rfl (by decide)]; show _ ≤ (2147483647 : Int); omega)) (A13.ext E14) (F13_name.ext E14) (F13_minimumAge.ext E14) (F13_rates.ext E14) ((V12.ext E13).ext E14) ((((A10.wr W11).wr W12).ext E13).ext E14)) e14 hS hk14 (by rw [hml]; rfl) (lenOf own_dsc4 rfl) (hb hby at_146) rfl (Nat.le_of_eq rfl) (by decide) (by decide) (by decide) (by decide) fun _ T15 L15 X15 hS hZ hown q15 => ?_
      obtain ⟨rfl, N15q, K15, A15, FM15, bb15, kb15, FR15, gb15, VB15⟩ := q15
      have N15 := Fr.app N12 N15q
      have sz15 : h0.size ≤ T15.heap.size := Nat.le_trans sz14 K15.1
      show Go p e below _ T15 (mkF m 149 #[.val (.int xa), .val (.int xb), .val (.int (1 : Int32)), .val (.int (2 : Int32)), .val (.int fi), .val (.ref b10), .val (.double (4598175219545276416 : UInt64)), .second, .unset, .unset, .unset, .unset] [(.ref b13)])
      refine Go.of (fun _ kz => XS.astore X15.here hx rfl (hb hby at_149) rfl rfl (l' := #[.val (.int xa), .val (.int xb), .val (.int (1 : Int32)), .val (.int (2 : Int32)), .val (.int fi), .val (.ref b10), .val (.double (4598175219545276416 : UInt64)), .second, .val (.ref b13), .unset, .unset, .unset]) rfl kz) ?_
      show Go p e below _ T15 (mkF m 151 #[.val (.int xa), .val (.int xb), .val (.int (1 : Int32)), .val (.int (2 : Int32)), .val (.int fi), .val (.ref b10), .val (.double (4598175219545276416 : UInt64)), .second, .val (.ref b13), .unset, .unset, .unset] [])
      refine Go.of (fun _ kz => XS.iload X15.here hx rfl (hb hby at_151) rfl kz) ?_
      show Go p e below _ T15 (mkF m 153 #[.val (.int xa), .val (.int xb), .val (.int (1 : Int32)), .val (.int (2 : Int32)), .val (.int fi), .val (.ref b10), .val (.double (4598175219545276416 : UInt64)), .second, .val (.ref b13), .unset, .unset, .unset] [(.int fi)])
      refine Go.of (fun _ kz => XS.i2l X15.here hx rfl (hb hby at_153) rfl kz) ?_
      show Go p e below _ T15 (mkF m 154 #[.val (.int xa), .val (.int xb), .val (.int (1 : Int32)), .val (.int (2 : Int32)), .val (.int fi), .val (.ref b10), .val (.double (4598175219545276416 : UInt64)), .second, .val (.ref b13), .unset, .unset, .unset] [(.long (fi.toInt64))])
      refine Go.of (fun _ kz => XS.iloadN X15.here hx rfl (hb hby at_154) rfl kz) ?_
      show Go p e below _ T15 (mkF m 155 #[.val (.int xa), .val (.int xb), .val (.int (1 : Int32)), .val (.int (2 : Int32)), .val (.int fi), .val (.ref b10), .val (.double (4598175219545276416 : UInt64)), .second, .val (.ref b13), .unset, .unset, .unset] [(.int (2 : Int32)), (.long (fi.toInt64))])
      refine Go.of (fun _ kz => XS.i2l X15.here hx rfl (hb hby at_155) rfl kz) ?_
      show Go p e below _ T15 (mkF m 156 #[.val (.int xa), .val (.int xb), .val (.int (1 : Int32)), .val (.int (2 : Int32)), .val (.int fi), .val (.ref b10), .val (.double (4598175219545276416 : UInt64)), .second, .val (.ref b13), .unset, .unset, .unset] [(.long (2 : Int64)), (.long (fi.toInt64))])
      refine Go.of (fun _ kz => XS.ladd X15.here hx rfl (hb hby at_156) rfl kz) ?_
      show Go p e below _ T15 (mkF m 157 #[.val (.int xa), .val (.int xb), .val (.int (1 : Int32)), .val (.int (2 : Int32)), .val (.int fi), .val (.ref b10), .val (.double (4598175219545276416 : UInt64)), .second, .val (.ref b13), .unset, .unset, .unset] [(.long ((fi.toInt64) + (2 : Int64)))])
      refine Go.of (fun _ kz => XS.lconst X15.here hx rfl (hb hby at_157) kz) ?_
      show Go p e below _ T15 (mkF m 158 #[.val (.int xa), .val (.int xb), .val (.int (1 : Int32)), .val (.int (2 : Int32)), .val (.int fi), .val (.ref b10), .val (.double (4598175219545276416 : UInt64)), .second, .val (.ref b13), .unset, .unset, .unset] [(.long (1 : Int64)), (.long ((fi.toInt64) + (2 : Int64)))])
      refine Go.of (fun _ kz => XS.lsub X15.here hx rfl (hb hby at_158) rfl kz) ?_
      show Go p e below _ T15 (mkF m 159 #[.val (.int xa), .val (.int xb), .val (.int (1 : Int32)), .val (.int (2 : Int32)), .val (.int fi), .val (.ref b10), .val (.double (4598175219545276416 : UInt64)), .second, .val (.ref b13), .unset, .unset, .unset] [(.long (((fi.toInt64) + (2 : Int64)) - (1 : Int64)))])
      refine Go.of (fun _ kz => XS.lstore X15.here hx rfl (hb hby at_159) rfl (l' := #[.val (.int xa), .val (.int xb), .val (.int (1 : Int32)), .val (.int (2 : Int32)), .val (.int fi), .val (.ref b10), .val (.double (4598175219545276416 : UInt64)), .second, .val (.ref b13), .val (.long (((fi.toInt64) + (2 : Int64)) - (1 : Int64))), .second, .unset]) rfl kz) ?_
      show Go p e below _ T15 (mkF m 161 #[.val (.int xa), .val (.int xb), .val (.int (1 : Int32)), .val (.int (2 : Int32)), .val (.int fi), .val (.ref b10), .val (.double (4598175219545276416 : UInt64)), .second, .val (.ref b13), .val (.long (((fi.toInt64) + (2 : Int64)) - (1 : Int64))), .second, .unset] [])
      refine Go.of (fun _ kz => XS.aload X15.here hx rfl (hb hby at_161) rfl rfl kz) ?_
      show Go p e below _ T15 (mkF m 163 #[.val (.int xa), .val (.int xb), .val (.int (1 : Int32)), .val (.int (2 : Int32)), .val (.int fi), .val (.ref b10), .val (.double (4598175219545276416 : UInt64)), .second, .val (.ref b13), .val (.long (((fi.toInt64) + (2 : Int64)) - (1 : Int64))), .second, .unset] [(.ref b13)])
      refine Go.callVP (W := 0) (y := (⟨"com/example/vestry/vestry/actuarial/MortalityTable", "maximumAge", "()I"⟩ : MethodName)) (z := (⟨"com/example/vestry/vestry/actuarial/MortalityTable", "maximumAge", "()I"⟩ : MethodName)) (a := b13) (argsL := []) (rest := []) (r := some (.int ((fi + (2 : Int32)) - (1 : Int32)))) X15 hx hZ hown (hw _ (List.mem_of_getElem? (i := 47) rfl)) (hw _ (List.mem_of_getElem? (i := 48) rfl)) (notFace_of_selects (args := #[]) (mvT hZ (hw _ (List.mem_of_getElem? (i := 50) rfl)))) (hw _ (List.mem_of_getElem? (i := 50) rfl)) (hw _ (List.mem_of_getElem? (i := 49) rfl)) (hw _ (List.mem_of_getElem? (i := 11) rfl)) (hw _ (List.mem_of_getElem? (i := 51) rfl)) (by decide) (own_rmMax l Z a0 hw b13 bb15 fi (2 : Int32) kb15 [(.double (0 : UInt64)), (.double (4598175219545276416 : UInt64))] (.double 0) T15.heap A15 FM15 FR15 VB15) rfl A15 (by rw [hml]; rfl) (lenOf own_dsc1 rfl) (hb hby at_163) rfl (Nat.le_of_eq rfl) (by decide) (by decide) (by decide) (by decide) fun T16 X16 e16 => ?_
      show Go p e below _ T16 (mkF m 166 #[.val (.int xa), .val (.int xb), .val (.int (1 : Int32)), .val (.int (2 : Int32)), .val (.int fi), .val (.ref b10), .val (.double (4598175219545276416 : UInt64)), .second, .val (.ref b13), .val (.long (((fi.toInt64) + (2 : Int64)) - (1 : Int64))), .second, .unset] [(.int ((fi + (2 : Int32)) - (1 : Int32)))])
      refine Go.of (fun _ kz => XS.istore X16.here hx rfl (hb hby at_166) rfl (l' := #[.val (.int xa), .val (.int xb), .val (.int (1 : Int32)), .val (.int (2 : Int32)), .val (.int fi), .val (.ref b10), .val (.double (4598175219545276416 : UInt64)), .second, .val (.ref b13), .val (.long (((fi.toInt64) + (2 : Int64)) - (1 : Int64))), .second, .val (.int ((fi + (2 : Int32)) - (1 : Int32)))]) rfl kz) ?_
      show Go p e below _ T16 (mkF m 168 #[.val (.int xa), .val (.int xb), .val (.int (1 : Int32)), .val (.int (2 : Int32)), .val (.int fi), .val (.ref b10), .val (.double (4598175219545276416 : UInt64)), .second, .val (.ref b13), .val (.long (((fi.toInt64) + (2 : Int64)) - (1 : Int64))), .second, .val (.int ((fi + (2 : Int32)) - (1 : Int32)))] [])
      refine Go.of (fun _ kz => XS.iload X16.here hx rfl (hb hby at_168) rfl kz) ?_
      show Go p e below _ T16 (mkF m 170 #[.val (.int xa), .val (.int xb), .val (.int (1 : Int32)), .val (.int (2 : Int32)), .val (.int fi), .val (.ref b10), .val (.double (4598175219545276416 : UInt64)), .second, .val (.ref b13), .val (.long (((fi.toInt64) + (2 : Int64)) - (1 : Int64))), .second, .val (.int ((fi + (2 : Int32)) - (1 : Int32)))] [(.int ((fi + (2 : Int32)) - (1 : Int32)))])
      refine Go.of (fun _ kz => XS.i2l X16.here hx rfl (hb hby at_170) rfl kz) ?_
      show Go p e below _ T16 (mkF m 171 #[.val (.int xa), .val (.int xb), .val (.int (1 : Int32)), .val (.int (2 : Int32)), .val (.int fi), .val (.ref b10), .val (.double (4598175219545276416 : UInt64)), .second, .val (.ref b13), .val (.long (((fi.toInt64) + (2 : Int64)) - (1 : Int64))), .second, .val (.int ((fi + (2 : Int32)) - (1 : Int32)))] [(.long (((fi + (2 : Int32)) - (1 : Int32)).toInt64))])
      refine Go.of (fun _ kz => XS.lload X16.here hx rfl (hb hby at_171) rfl kz) ?_
      show Go p e below _ T16 (mkF m 173 #[.val (.int xa), .val (.int xb), .val (.int (1 : Int32)), .val (.int (2 : Int32)), .val (.int fi), .val (.ref b10), .val (.double (4598175219545276416 : UInt64)), .second, .val (.ref b13), .val (.long (((fi.toInt64) + (2 : Int64)) - (1 : Int64))), .second, .val (.int ((fi + (2 : Int32)) - (1 : Int32)))] [(.long (((fi.toInt64) + (2 : Int64)) - (1 : Int64))), (.long (((fi + (2 : Int32)) - (1 : Int32)).toInt64))])
      refine Go.of (fun _ kz => XS.lcmp X16.here hx rfl (hb hby at_173) rfl kz) ?_
      show Go p e below _ T16 (mkF m 174 #[.val (.int xa), .val (.int xb), .val (.int (1 : Int32)), .val (.int (2 : Int32)), .val (.int fi), .val (.ref b10), .val (.double (4598175219545276416 : UInt64)), .second, .val (.ref b13), .val (.long (((fi.toInt64) + (2 : Int64)) - (1 : Int64))), .second, .val (.int ((fi + (2 : Int32)) - (1 : Int32)))] [(.int (XS.cmpL (((fi + (2 : Int32)) - (1 : Int32)).toInt64) (((fi.toInt64) + (2 : Int64)) - (1 : Int64))))])
      refine Go.of (fun _ kz => XS.ifNo X16.here hx rfl (hb hby at_174) rfl ((if0 _ _).trans (teq (own_cmp0 (own_same (n := 2) hfi.1 rfl rfl (by decide) (by decide) hf1) : (XS.cmpL (((fi + (2 : Int32)) - (1 : Int32)).toInt64) (((fi.toInt64) + (2 : Int64)) - (1 : Int64))) = (0 : Int32))).2) kz) ?_
      show Go p e below _ T16 (mkF m 177 #[.val (.int xa), .val (.int xb), .val (.int (1 : Int32)), .val (.int (2 : Int32)), .val (.int fi), .val (.ref b10), .val (.double (4598175219545276416 : UInt64)), .second, .val (.ref b13), .val (.long (((fi.toInt64) + (2 : Int64)) - (1 : Int64))), .second, .val (.int ((fi + (2 : Int32)) - (1 : Int32)))] [])
      refine Go.of (fun _ kz => XS.iload X16.here hx rfl (hb hby at_177) rfl kz) ?_
      show Go p e below _ T16 (mkF m 179 #[.val (.int xa), .val (.int xb), .val (.int (1 : Int32)), .val (.int (2 : Int32)), .val (.int fi), .val (.ref b10), .val (.double (4598175219545276416 : UInt64)), .second, .val (.ref b13), .val (.long (((fi.toInt64) + (2 : Int64)) - (1 : Int64))), .second, .val (.int ((fi + (2 : Int32)) - (1 : Int32)))] [(.int ((fi + (2 : Int32)) - (1 : Int32)))])
      refine Go.of (fun _ kz => XS.aload X16.here hx rfl (hb hby at_179) rfl rfl kz) ?_
      show Go p e below _ T16 (mkF m 181 #[.val (.int xa), .val (.int xb), .val (.int (1 : Int32)), .val (.int (2 : Int32)), .val (.int fi), .val (.ref b10), .val (.double (4598175219545276416 : UInt64)), .second, .val (.ref b13), .val (.long (((fi.toInt64) + (2 : Int64)) - (1 : Int64))), .second, .val (.int ((fi + (2 : Int32)) - (1 : Int32)))] [(.ref b13), (.int ((fi + (2 : Int32)) - (1 : Int32)))])
      refine Go.callVP (W := 1) (y := (⟨"com/example/vestry/vestry/actuarial/MortalityTable", "minimumAge", "()I"⟩ : MethodName)) (z := (⟨"com/example/vestry/vestry/actuarial/MortalityTable", "minimumAge", "()I"⟩ : MethodName)) (a := b13) (argsL := []) (rest := [(.int ((fi + (2 : Int32)) - (1 : Int32)))]) (r := some (.int fi)) X16 hx hZ hown (hw _ (List.mem_of_getElem? (i := 52) rfl)) (hw _ (List.mem_of_getElem? (i := 53) rfl)) (notFace_of_selects (args := #[]) (mvT hZ (hw _ (List.mem_of_getElem? (i := 55) rfl)))) (hw _ (List.mem_of_getElem? (i := 55) rfl)) (hw _ (List.mem_of_getElem? (i := 54) rfl)) (hw _ (List.mem_of_getElem? (i := 11) rfl)) (hw _ (List.mem_of_getElem? (i := 56) rfl)) (by decide) (own_rmMn l Z a0 hw b13 bb15 fi (2 : Int32) kb15 [(.double (0 : UInt64)), (.double (4598175219545276416 : UInt64))] (.double 0) T15.heap A15 FM15 FR15 VB15) e16 A15 (by rw [hml]; rfl) (lenOf own_dsc1 rfl) (hb hby at_181) rfl (Nat.le_of_eq rfl) (by decide) (by decide) (by decide) (by decide) fun T17 X17 e17 => ?_
      show Go p e below _ T17 (mkF m 184 #[.val (.int xa), .val (.int xb), .val (.int (1 : Int32)), .val (.int (2 : Int32)), .val (.int fi), .val (.ref b10), .val (.double (4598175219545276416 : UInt64)), .second, .val (.ref b13), .val (.long (((fi.toInt64) + (2 : Int64)) - (1 : Int64))), .second, .val (.int ((fi + (2 : Int32)) - (1 : Int32)))] [(.int fi), (.int ((fi + (2 : Int32)) - (1 : Int32)))])
      refine Go.of (fun _ kz => XS.icmpNo X17.here hx rfl (hb hby at_184) rfl (flt (own_ge (n := 2) hfi.1 rfl (by decide) hf1)).1 kz) ?_
      show Go p e below _ T17 (mkF m 187 #[.val (.int xa), .val (.int xb), .val (.int (1 : Int32)), .val (.int (2 : Int32)), .val (.int fi), .val (.ref b10), .val (.double (4598175219545276416 : UInt64)), .second, .val (.ref b13), .val (.long (((fi.toInt64) + (2 : Int64)) - (1 : Int64))), .second, .val (.int ((fi + (2 : Int32)) - (1 : Int32)))] [])
      refine Go.of (fun _ kz => XS.aload X17.here hx rfl (hb hby at_187) rfl rfl kz) ?_
      show Go p e below _ T17 (mkF m 189 #[.val (.int xa), .val (.int xb), .val (.int (1 : Int32)), .val (.int (2 : Int32)), .val (.int fi), .val (.ref b10), .val (.double (4598175219545276416 : UInt64)), .second, .val (.ref b13), .val (.long (((fi.toInt64) + (2 : Int64)) - (1 : Int64))), .second, .val (.int ((fi + (2 : Int32)) - (1 : Int32)))] [(.ref b13)])
      refine Go.of (fun _ kz => XS.iload X17.here hx rfl (hb hby at_189) rfl kz) ?_
      show Go p e below _ T17 (mkF m 191 #[.val (.int xa), .val (.int xb), .val (.int (1 : Int32)), .val (.int (2 : Int32)), .val (.int fi), .val (.ref b10), .val (.double (4598175219545276416 : UInt64)), .second, .val (.ref b13), .val (.long (((fi.toInt64) + (2 : Int64)) - (1 : Int64))), .second, .val (.int ((fi + (2 : Int32)) - (1 : Int32)))] [(.int ((fi + (2 : Int32)) - (1 : Int32))), (.ref b13)])
      refine Go.callVP (W := 0) (y := (⟨"com/example/vestry/vestry/actuarial/MortalityTable", "rate", "(I)D"⟩ : MethodName)) (z := (⟨"com/example/vestry/vestry/actuarial/MortalityTable", "rate", "(I)D"⟩ : MethodName)) (a := b13) (argsL := [(.int ((fi + (2 : Int32)) - (1 : Int32)))]) (rest := []) (r := some (.double (4598175219545276416 : UInt64))) X17 hx hZ hown (hw _ (List.mem_of_getElem? (i := 57) rfl)) (hw _ (List.mem_of_getElem? (i := 58) rfl)) (notFace_of_selects (args := #[]) (mvT hZ (hw _ (List.mem_of_getElem? (i := 60) rfl)))) (hw _ (List.mem_of_getElem? (i := 60) rfl)) (hw _ (List.mem_of_getElem? (i := 59) rfl)) (hw _ (List.mem_of_getElem? (i := 11) rfl)) (hw _ (List.mem_of_getElem? (i := 61) rfl)) (by decide) (own_rmRa l Z a0 hw b13 bb15 fi (2 : Int32) kb15 [(.double (0 : UInt64)), (.double (4598175219545276416 : UInt64))] (.double 0) (4598175219545276416 : UInt64) T15.heap A15 FM15 FR15 VB15 (own_ge (n := 2) hfi.1 rfl (by decide) hf1) (by decide) rfl) e17 A15 (by rw [hml]; rfl) (lenOf own_dsc5 rfl) (hb hby at_191) rfl (Nat.le_of_eq rfl) (by decide) (by decide) (by decide) (by decide) fun T18 X18 e18 => ?_
      show Go p e below _ T18 (mkF m 194 #[.val (.int xa), .val (.int xb), .val (.int (1 : Int32)), .val (.int (2 : Int32)), .val (.int fi), .val (.ref b10), .val (.double (4598175219545276416 : UInt64)), .second, .val (.ref b13), .val (.long (((fi.toInt64) + (2 : Int64)) - (1 : Int64))), .second, .val (.int ((fi + (2 : Int32)) - (1 : Int32)))] [(.double (4598175219545276416 : UInt64))])
      refine Go.of (fun _ kz => XS.dload X18.here hx rfl (hb hby at_194) rfl kz) ?_
      show Go p e below _ T18 (mkF m 196 #[.val (.int xa), .val (.int xb), .val (.int (1 : Int32)), .val (.int (2 : Int32)), .val (.int fi), .val (.ref b10), .val (.double (4598175219545276416 : UInt64)), .second, .val (.ref b13), .val (.long (((fi.toInt64) + (2 : Int64)) - (1 : Int64))), .second, .val (.int ((fi + (2 : Int32)) - (1 : Int32)))] [(.double (4598175219545276416 : UInt64)), (.double (4598175219545276416 : UInt64))])
      refine Go.of (fun _ kz => XS.dcmpS X18.here hx rfl (hb hby at_196) rfl rfl kz) ?_
      show Go p e below _ T18 (mkF m 197 #[.val (.int xa), .val (.int xb), .val (.int (1 : Int32)), .val (.int (2 : Int32)), .val (.int fi), .val (.ref b10), .val (.double (4598175219545276416 : UInt64)), .second, .val (.ref b13), .val (.long (((fi.toInt64) + (2 : Int64)) - (1 : Int64))), .second, .val (.int ((fi + (2 : Int32)) - (1 : Int32)))] [(.int (cmpValue (FP.dcmp (4598175219545276416 : UInt64) (4598175219545276416 : UInt64)) .l))])
      refine Go.of (fun _ kz => XS.ifNo X18.here hx rfl (hb hby at_197) rfl ((if0 _ _).trans (teq (by decide +kernel : (cmpValue (FP.dcmp (4598175219545276416 : UInt64) (4598175219545276416 : UInt64)) .l) = (0 : Int32))).2) kz) ?_
      show Go p e below _ T18 (mkF m 200 #[.val (.int xa), .val (.int xb), .val (.int (1 : Int32)), .val (.int (2 : Int32)), .val (.int fi), .val (.ref b10), .val (.double (4598175219545276416 : UInt64)), .second, .val (.ref b13), .val (.long (((fi.toInt64) + (2 : Int64)) - (1 : Int64))), .second, .val (.int ((fi + (2 : Int32)) - (1 : Int32)))] [])
      refine Go.of (fun _ kz => XS.iconst X18.here hx rfl (hb hby at_200) kz) ?_
      show Go p e below _ T18 (mkF m 201 #[.val (.int xa), .val (.int xb), .val (.int (1 : Int32)), .val (.int (2 : Int32)), .val (.int fi), .val (.ref b10), .val (.double (4598175219545276416 : UInt64)), .second, .val (.ref b13), .val (.long (((fi.toInt64) + (2 : Int64)) - (1 : Int64))), .second, .val (.int ((fi + (2 : Int32)) - (1 : Int32)))] [(.int (1 : Int32))])
      refine Go.of (fun _ kz => XS.goto X18.here hx rfl (pc0 := 201) (pc' := 205) rfl (hb hby at_201) (by decide) (by decide) kz) ?_
      show Go p e below _ T18 (mkF m 205 #[.val (.int xa), .val (.int xb), .val (.int (1 : Int32)), .val (.int (2 : Int32)), .val (.int fi), .val (.ref b10), .val (.double (4598175219545276416 : UInt64)), .second, .val (.ref b13), .val (.long (((fi.toInt64) + (2 : Int64)) - (1 : Int64))), .second, .val (.int ((fi + (2 : Int32)) - (1 : Int32)))] [(.int (1 : Int32))])
      exact Go.retNW X18 hx hS (by rw [e18]; exact (Nat.le_refl _)) hlk (t := .boolean) hret (by simp) (hb hby at_205) (by decide) (by decide) ⟨rfl, N15⟩
    ·
      refine Go.of (fun _ kz => XS.icmpYes X1.here hx rfl (pc0 := 46) (pc' := 72) rfl (hb hby at_46) rfl (feq hc46).2 (by decide) (by decide) kz) ?_
      show Go p e below _ T1 (mkF m 72 #[.val (.int xa), .val (.int xb), .val (.int kk), .val (.int (kk + (1 : Int32))), .val (.int fi), .unset, .unset, .unset, .unset, .unset, .unset, .unset] [])
      refine Go.of (fun _ kz => XS.iloadN X1.here hx rfl (hb hby at_72) rfl kz) ?_
      show Go p e below _ T1 (mkF m 73 #[.val (.int xa), .val (.int xb), .val (.int kk), .val (.int (kk + (1 : Int32))), .val (.int fi), .unset, .unset, .unset, .unset, .unset, .unset, .unset] [(.int kk)])
      refine Go.of (fun _ kz => XS.iconst X1.here hx rfl (hb hby at_73) kz) ?_
      show Go p e below _ T1 (mkF m 74 #[.val (.int xa), .val (.int xb), .val (.int kk), .val (.int (kk + (1 : Int32))), .val (.int fi), .unset, .unset, .unset, .unset, .unset, .unset, .unset] [(.int (2 : Int32)), (.int kk)])
      by_cases hc74 : kk = (2 : Int32)
      ·
        refine Go.of (fun _ kz => XS.icmpNo X1.here hx rfl (hb hby at_74) rfl (teq hc74).2 kz) ?_
        show Go p e below _ T1 (mkF m 77 #[.val (.int xa), .val (.int xb), .val (.int kk), .val (.int (kk + (1 : Int32))), .val (.int fi), .unset, .unset, .unset, .unset, .unset, .unset, .unset] [])
        obtain rfl : kk = 2 := hc74
        have hf1 : fi.toInt + (3 - 1 : Nat) ≤ 2147483647 := hfi.2
        show Go p e below _ T1 (mkF m 77 #[.val (.int xa), .val (.int xb), .val (.int (2 : Int32)), .val (.int (3 : Int32)), .val (.int fi), .unset, .unset, .unset, .unset, .unset, .unset, .unset] [])
        refine Go.of (fun _ kz => XS.iconst X1.here hx rfl (hb hby at_77) kz) ?_
        show Go p e below _ T1 (mkF m 78 #[.val (.int xa), .val (.int xb), .val (.int (2 : Int32)), .val (.int (3 : Int32)), .val (.int fi), .unset, .unset, .unset, .unset, .unset, .unset, .unset] [(.int (3 : Int32))])
        refine Go.newarrE X1 hx hZ (ad := "[D") (by decide) (hw _ (List.mem_of_getElem? (i := 5) rfl)) e1 3 (by decide) (by decide) (by decide) (by decide) (by decide) (hb hby at_78) fun T19 h19 b19 k19 g19 X19 e19 E19 V19 A19 => ?_
        have ge_b19 : h0.size ≤ b19 := g19 ▸ (Nat.le_refl _)
        have sz19 : h0.size ≤ h19.size := Nat.le_trans (Nat.le_refl _) E19.1
        have hk19 : 0 ≤ h19.size := Nat.le_trans hk E19.1
        have V19 : Arv Z h19 b19 k19 .double (3 : Int32) [(.double 0), (.double 0), (.double 0)] (.double 0) := V19
        show Go p e below _ T19 (mkF m 80 #[.val (.int xa), .val (.int xb), .val (.int (2 : Int32)), .val (.int (3 : Int32)), .val (.int fi), .unset, .unset, .unset, .unset, .unset, .unset, .unset] [(.ref b19)])
        refine Go.of (fun _ kz => XS.dup X19.here hx rfl (hb hby at_80) rfl rfl kz) ?_
        show Go p e below _ T19 (mkF m 81 #[.val (.int xa), .val (.int xb), .val (.int (2 : Int32)), .val (.int (3 : Int32)), .val (.int fi), .unset, .unset, .unset, .unset, .unset, .unset, .unset] [(.ref b19), (.ref b19)])
        refine Go.of (fun _ kz => XS.iconst X19.here hx rfl (hb hby at_81) kz) ?_
        show Go p e below _ T19 (mkF m 82 #[.val (.int xa), .val (.int xb), .val (.int (2 : Int32)), .val (.int (3 : Int32)), .val (.int fi), .unset, .unset, .unset, .unset, .unset, .unset, .unset] [(.int (0 : Int32)), (.ref b19), (.ref b19)])
        refine Go.of (fun _ kz => XS.dconst1 X19.here hx rfl (hb hby at_82) (v := 4607182418800017408) (by decide +kernel) kz) ?_
        show Go p e below _ T19 (mkF m 83 #[.val (.int xa), .val (.int xb), .val (.int (2 : Int32)), .val (.int (3 : Int32)), .val (.int fi), .unset, .unset, .unset, .unset, .unset, .unset, .unset] [(.double (4607182418800017408 : UInt64)), (.int (0 : Int32)), (.ref b19), (.ref b19)])
        refine Go.dastore X19 hx hZ e19 V19 ⟨by decide, by decide⟩ 0 rfl (Nat.le_of_ble_eq_true rfl) (hb hby at_83) fun T20 h20 X20 e20 W20 V20 => ?_
        have sz20 : h0.size ≤ h20.size := Nat.le_trans sz19 (Keep.of_wr W20).1
        have hk20 : 0 ≤ h20.size := Nat.le_trans hk19 (Keep.of_wr W20).1
        have N20 := Fr.snoc X20 (Fr.nil _) ge_b19
        have V20 : Arv Z h20 b19 k19 .double (3 : Int32) [(.double (4607182418800017408 : UInt64)), (.double 0), (.double 0)] (.double 0) := V20
        show Go p e below _ T20 (mkF m 84 #[.val (.int xa), .val (.int xb), .val (.int (2 : Int32)), .val (.int (3 : Int32)), .val (.int fi), .unset, .unset, .unset, .unset, .unset, .unset, .unset] [(.ref b19)])
        refine Go.of (fun _ kz => XS.dup X20.here hx rfl (hb hby at_84) rfl rfl kz) ?_
        show Go p e below _ T20 (mkF m 85 #[.val (.int xa), .val (.int xb), .val (.int (2 : Int32)), .val (.int (3 : Int32)), .val (.int fi), .unset, .unset, .unset, .unset, .unset, .unset, .unset] [(.ref b19), (.ref b19)])
        refine Go.of (fun _ kz => XS.iconst X20.here hx rfl (hb hby at_85) kz) ?_
        show Go p e below _ T20 (mkF m 86 #[.val (.int xa), .val (.int xb), .val (.int (2 : Int32)), .val (.int (3 : Int32)), .val (.int fi), .unset, .unset, .unset, .unset, .unset, .unset, .unset] [(.int (1 : Int32)), (.ref b19), (.ref b19)])
        refine Go.of (fun _ kz => XS.dconst0 X20.here hx rfl (hb hby at_86) (v := 0) (by decide +kernel) kz) ?_
        show Go p e below _ T20 (mkF m 87 #[.val (.int xa), .val (.int xb), .val (.int (2 : Int32)), .val (.int (3 : Int32)), .val (.int fi), .unset, .unset, .unset, .unset, .unset, .unset, .unset] [(.double (0 : UInt64)), (.int (1 : Int32)), (.ref b19), (.ref b19)])
        refine Go.dastore X20 hx hZ e20 V20 ⟨by decide, by decide⟩ 1 rfl (Nat.le_of_ble_eq_true rfl) (hb hby at_87) fun T21 h21 X21 e21 W21 V21 => ?_
        have sz21 : h0.size ≤ h21.size := Nat.le_trans sz20 (Keep.of_wr W21).1
        have hk21 : 0 ≤ h21.size := Nat.le_trans hk20 (Keep.of_wr W21).1
        have N21 := Fr.snoc X21 N20 ge_b19
        have V21 : Arv Z h21 b19 k19 .double (3 : Int32) [(.double (4607182418800017408 : UInt64)), (.double (0 : UInt64)), (.double 0)] (.double 0) := V21
        show Go p e below _ T21 (mkF m 88 #[.val (.int xa), .val (.int xb), .val (.int (2 : Int32)), .val (.int (3 : Int32)), .val (.int fi), .unset, .unset, .unset, .unset, .unset, .unset, .unset] [(.ref b19)])
        refine Go.of (fun _ kz => XS.dup X21.here hx rfl (hb hby at_88) rfl rfl kz) ?_
        show Go p e below _ T21 (mkF m 89 #[.val (.int xa), .val (.int xb), .val (.int (2 : Int32)), .val (.int (3 : Int32)), .val (.int fi), .unset, .unset, .unset, .unset, .unset, .unset, .unset] [(.ref b19), (.ref b19)])
        refine Go.of (fun _ kz => XS.iconst X21.here hx rfl (hb hby at_89) kz) ?_
        show Go p e below _ T21 (mkF m 90 #[.val (.int xa), .val (.int xb), .val (.int (2 : Int32)), .val (.int (3 : Int32)), .val (.int fi), .unset, .unset, .unset, .unset, .unset, .unset, .unset] [(.int (2 : Int32)), (.ref b19), (.ref b19)])
        refine Go.of (X21.ldc2DoubleC hx hown (mvT hZ (hw _ (List.mem_of_getElem? (i := 69) rfl))) (g := (mkF m 90 #[.val (.int xa), .val (.int xb), .val (.int (2 : Int32)), .val (.int (3 : Int32)), .val (.int fi), .unset, .unset, .unset, .unset, .unset, .unset, .unset] [(.int (2 : Int32)), (.ref b19), (.ref b19)])) rfl (hb hby at_90)) ?_
        show Go p e below _ T21 (mkF m 93 #[.val (.int xa), .val (.int xb), .val (.int (2 : Int32)), .val (.int (3 : Int32)), .val (.int fi), .unset, .unset, .unset, .unset, .unset, .unset, .unset] [(.double (4604930618986332160 : UInt64)), (.int (2 : Int32)), (.ref b19), (.ref b19)])
        refine Go.dastore X21 hx hZ e21 V21 ⟨by decide, by decide⟩ 2 rfl (Nat.le_of_ble_eq_true rfl) (hb hby at_93) fun T22 h22 X22 e22 W22 V22 => ?_
        have sz22 : h0.size ≤ h22.size := Nat.le_trans sz21 (Keep.of_wr W22).1
        have hk22 : 0 ≤ h22.size := Nat.le_trans hk21 (Keep.of_wr W22).1
        have N22 := Fr.snoc X22 N21 ge_b19
        have V22 : Arv Z h22 b19 k19 .double (3 : Int32) [(.double (4607182418800017408 : UInt64)), (.double (0 : UInt64)), (.double (4604930618986332160 : UInt64))] (.double 0) := V22
        show Go p e below _ T22 (mkF m 94 #[.val (.int xa), .val (.int xb), .val (.int (2 : Int32)), .val (.int (3 : Int32)), .val (.int fi), .unset, .unset, .unset, .unset, .unset, .unset, .unset] [(.ref b19)])
        refine Go.of (fun _ kz => XS.astore X22.here hx rfl (hb hby at_94) rfl rfl (l' := #[.val (.int xa), .val (.int xb), .val (.int (2 : Int32)), .val (.int (3 : Int32)), .val (.int fi), .val (.ref b19), .unset, .unset, .unset, .unset, .unset, .unset]) rfl kz) ?_
        show Go p e below _ T22 (mkF m 96 #[.val (.int xa), .val (.int xb), .val (.int (2 : Int32)), .val (.int (3 : Int32)), .val (.int fi), .val (.ref b19), .unset, .unset, .unset, .unset, .unset, .unset] [])
        refine Go.of (X22.ldc2DoubleC hx hown (mvT hZ (hw _ (List.mem_of_getElem? (i := 69) rfl))) (g := (mkF m 96 #[.val (.int xa), .val (.int xb), .val (.int (2 : Int32)), .val (.int (3 : Int32)), .val (.int fi), .val (.ref b19), .unset, .unset, .unset, .unset, .unset, .unset] [])) rfl (hb hby at_96)) ?_
        show Go p e below _ T22 (mkF m 99 #[.val (.int xa), .val (.int xb), .val (.int (2 : Int32)), .val (.int (3 : Int32)), .val (.int fi), .val (.ref b19), .unset, .unset, .unset, .unset, .unset, .unset] [(.double (4604930618986332160 : UInt64))])
        refine Go.of (fun _ kz => XS.dstore X22.here hx rfl (hb hby at_99) rfl (l' := #[.val (.int xa), .val (.int xb), .val (.int (2 : Int32)), .val (.int (3 : Int32)), .val (.int fi), .val (.ref b19), .val (.double (4604930618986332160 : UInt64)), .second, .unset, .unset, .unset, .unset]) rfl kz) ?_
        show Go p e below _ T22 (mkF m 101 #[.val (.int xa), .val (.int xb), .val (.int (2 : Int32)), .val (.int (3 : Int32)), .val (.int fi), .val (.ref b19), .val (.double (4604930618986332160 : UInt64)), .second, .unset, .unset, .unset, .unset] [])
        refine Go.of (fun _ kz => XS.goto X22.here hx rfl (pc0 := 101) (pc' := 136) rfl (hb hby at_101) (by decide) (by decide) kz) ?_
        show Go p e below _ T22 (mkF m 136 #[.val (.int xa), .val (.int xb), .val (.int (2 : Int32)), .val (.int (3 : Int32)), .val (.int fi), .val (.ref b19), .val (.double (4604930618986332160 : UInt64)), .second, .unset, .unset, .unset, .unset] [])
        refine Go.new X22 hx hZ hown (hw _ (List.mem_of_getElem? (i := 9) rfl)) (hw _ (List.mem_of_getElem? (i := 10) rfl)) (hw _ (List.mem_of_getElem? (i := 11) rfl)) e22 (hb hby at_136) (by decide) (by decide) fun T23 h23 b23 g23 X23 e23 E23 A23 D23 => ?_
        have lt_b19_b23 : b19 < b23 := Nat.lt_of_lt_of_le V22.lt (Nat.le_of_eq g23.symm)
        have ge_b23 : h0.size ≤ b23 := g23 ▸ sz22
        have sz23 : h0.size ≤ h23.size := Nat.le_trans sz22 E23.1
        have hk23 : 0 ≤ h23.size := Nat.le_trans hk22 E23.1
        have F23_name : Fld Z h23 b23 "com/example/vestry/vestry/actuarial/MortalityTable" "name" "Ljava/lang/String;" .null := D23 (Or.inr (hw _ (List.mem_of_getElem? (i := 33) rfl))) (ty := (.object "java/lang/String")) (by decide)
        have F23_minimumAge : Fld Z h23 b23 "com/example/vestry/vestry/actuarial/MortalityTable" "minimumAge" "I" (.int (0 : Int32)) := D23 (Or.inr (hw _ (List.mem_of_getElem? (i := 35) rfl))) (ty := .int) (by decide)
        have F23_rates : Fld Z h23 b23 "com/example/vestry/vestry/actuarial/MortalityTable" "rates" "[D" .null := D23 (Or.inr (hw _ (List.mem_of_getElem? (i := 46) rfl))) (ty := (.array .double)) (by decide)
        show Go p e below _ T23 (mkF m 139 #[.val (.int xa), .val (.int xb), .val (.int (2 : Int32)), .val (.int (3 : Int32)), .val (.int fi), .val (.ref b19), .val (.double (4604930618986332160 : UInt64)), .second, .unset, .unset, .unset, .unset] [(.ref b23)])
        refine Go.of (fun _ kz => XS.dup X23.here hx rfl (hb hby at_139) rfl rfl kz) ?_
        show Go p e below _ T23 (mkF m 140 #[.val (.int xa), .val (.int xb), .val (.int (2 : Int32)), .val (.int (3 : Int32)), .val (.int fi), .val (.ref b19), .val (.double (4604930618986332160 : UInt64)), .second, .unset, .unset, .unset, .unset] [(.ref b23), (.ref b23)])
        refine Go.ldcS X23 hx hZ hown (hw _ (List.mem_of_getElem? (i := 12) rfl)) wS e23 hS hk23 (hb hby at_140) 4 (by decide) (by decide) (by decide) (by decide) fun b24 T24 h24 k24 X24 e24 E24 hS hk24 hZ hown => ?_
        have sz24 : h0.size ≤ h24.size := Nat.le_trans sz23 E24.1
        show Go p e below _ T24 (mkF m 142 #[.val (.int xa), .val (.int xb), .val (.int (2 : Int32)), .val (.int (3 : Int32)), .val (.int fi), .val (.ref b19), .val (.double (4604930618986332160 : UInt64)), .second, .unset, .unset, .unset, .unset] [(.ref b24), (.ref b23), (.ref b23)])
        refine Go.of (fun _ kz => XS.iload X24.here hx rfl (hb hby at_142) rfl kz) ?_
        show Go p e below _ T24 (mkF m 144 #[.val (.int xa), .val (.int xb), .val (.int (2 : Int32)), .val (.int (3 : Int32)), .val (.int fi), .val (.ref b19), .val (.double (4604930618986332160 : UInt64)), .second, .unset, .unset, .unset, .unset] [(.int fi), (.ref b24), (.ref b23), (.ref b23)])
        refine Go.of (fun _ kz => XS.aload X24.here hx rfl (hb hby at_144) rfl rfl kz) ?_
        show Go p e below _ T24 (mkF m 146 #[.val (.int xa), .val (.int xb), .val (.int (2 : Int32)), .val (.int (3 : Int32)), .val (.int fi), .val (.ref b19), .val (.double (4604930618986332160 : UInt64)), .second, .unset, .unset, .unset, .unset] [(.ref b19), (.int fi), (.ref b24), (.ref b23), (.ref b23)])
        refine Go.callIW (W := 1) (y := (⟨"com/example/vestry/vestry/actuarial/MortalityTable", "<init>", "(Ljava/lang/String;I[D)V"⟩ : MethodName)) (a := b23) (argsL := [(.ref b24), (.int fi), (.ref b19)]) (rest := [(.ref b23)]) X24 hx hZ rfl hown (hw _ (List.mem_of_getElem? (i := 20) rfl)) (hw _ (List.mem_of_getElem? (i := 21) rfl)) (hw _ (List.mem_of_getElem? (i := 11) rfl)) (hw _ (List.mem_of_getElem? (i := 22) rfl)) (by decide) (own_rmC3 l Z a0 hw b23 b24 fi b19 k19 h0.size h24 sz24 ge_b23 ge_b19 (Nat.ne_of_lt lt_b19_b23) (own_nn hfi.1) (own_cmpL (by rw [own_long (n := 3) rfl (by decide)]; show _ ≤ (2147483647 : Int); omega)) (A23.ext E24) (F23_name.ext E24) (F23_minimumAge.ext E24) (F23_rates.ext E24) ((V22.ext E23).ext E24) (((((A19.wr W20).wr W21).wr W22).ext E23).ext E24)) e24 hS hk24 (by rw [hml]; rfl) (lenOf own_dsc4 rfl) (hb hby at_146) rfl (Nat.le_of_eq rfl) (by decide) (by decide) (by decide) (by decide) fun _ T25 L25 X25 hS hZ hown q25 => ?_
        obtain ⟨rfl, N25q, K25, A25, FM25, bb25, kb25, FR25, gb25, VB25⟩ := q25
        have N25 := Fr.app N22 N25q
        have sz25 : h0.size ≤ T25.heap.size := Nat.le_trans sz24 K25.1
        show Go p e below _ T25 (mkF m 149 #[.val (.int xa), .val (.int xb), .val (.int (2 : Int32)), .val (.int (3 : Int32)), .val (.int fi), .val (.ref b19), .val (.double (4604930618986332160 : UInt64)), .second, .unset, .unset, .unset, .unset] [(.ref b23)])
        refine Go.of (fun _ kz => XS.astore X25.here hx rfl (hb hby at_149) rfl rfl (l' := #[.val (.int xa), .val (.int xb), .val (.int (2 : Int32)), .val (.int (3 : Int32)), .val (.int fi), .val (.ref b19), .val (.double (4604930618986332160 : UInt64)), .second, .val (.ref b23), .unset, .unset, .unset]) rfl kz) ?_
        show Go p e below _ T25 (mkF m 151 #[.val (.int xa), .val (.int xb), .val (.int (2 : Int32)), .val (.int (3 : Int32)), .val (.int fi), .val (.ref b19), .val (.double (4604930618986332160 : UInt64)), .second, .val (.ref b23), .unset, .unset, .unset] [])
        refine Go.of (fun _ kz => XS.iload X25.here hx rfl (hb hby at_151) rfl kz) ?_
        show Go p e below _ T25 (mkF m 153 #[.val (.int xa), .val (.int xb), .val (.int (2 : Int32)), .val (.int (3 : Int32)), .val (.int fi), .val (.ref b19), .val (.double (4604930618986332160 : UInt64)), .second, .val (.ref b23), .unset, .unset, .unset] [(.int fi)])
        refine Go.of (fun _ kz => XS.i2l X25.here hx rfl (hb hby at_153) rfl kz) ?_
        show Go p e below _ T25 (mkF m 154 #[.val (.int xa), .val (.int xb), .val (.int (2 : Int32)), .val (.int (3 : Int32)), .val (.int fi), .val (.ref b19), .val (.double (4604930618986332160 : UInt64)), .second, .val (.ref b23), .unset, .unset, .unset] [(.long (fi.toInt64))])
        refine Go.of (fun _ kz => XS.iloadN X25.here hx rfl (hb hby at_154) rfl kz) ?_
        show Go p e below _ T25 (mkF m 155 #[.val (.int xa), .val (.int xb), .val (.int (2 : Int32)), .val (.int (3 : Int32)), .val (.int fi), .val (.ref b19), .val (.double (4604930618986332160 : UInt64)), .second, .val (.ref b23), .unset, .unset, .unset] [(.int (3 : Int32)), (.long (fi.toInt64))])
        refine Go.of (fun _ kz => XS.i2l X25.here hx rfl (hb hby at_155) rfl kz) ?_
        show Go p e below _ T25 (mkF m 156 #[.val (.int xa), .val (.int xb), .val (.int (2 : Int32)), .val (.int (3 : Int32)), .val (.int fi), .val (.ref b19), .val (.double (4604930618986332160 : UInt64)), .second, .val (.ref b23), .unset, .unset, .unset] [(.long (3 : Int64)), (.long (fi.toInt64))])
        refine Go.of (fun _ kz => XS.ladd X25.here hx rfl (hb hby at_156) rfl kz) ?_
        show Go p e below _ T25 (mkF m 157 #[.val (.int xa), .val (.int xb), .val (.int (2 : Int32)), .val (.int (3 : Int32)), .val (.int fi), .val (.ref b19), .val (.double (4604930618986332160 : UInt64)), .second, .val (.ref b23), .unset, .unset, .unset] [(.long ((fi.toInt64) + (3 : Int64)))])
        refine Go.of (fun _ kz => XS.lconst X25.here hx rfl (hb hby at_157) kz) ?_
        show Go p e below _ T25 (mkF m 158 #[.val (.int xa), .val (.int xb), .val (.int (2 : Int32)), .val (.int (3 : Int32)), .val (.int fi), .val (.ref b19), .val (.double (4604930618986332160 : UInt64)), .second, .val (.ref b23), .unset, .unset, .unset] [(.long (1 : Int64)), (.long ((fi.toInt64) + (3 : Int64)))])
        refine Go.of (fun _ kz => XS.lsub X25.here hx rfl (hb hby at_158) rfl kz) ?_
        show Go p e below _ T25 (mkF m 159 #[.val (.int xa), .val (.int xb), .val (.int (2 : Int32)), .val (.int (3 : Int32)), .val (.int fi), .val (.ref b19), .val (.double (4604930618986332160 : UInt64)), .second, .val (.ref b23), .unset, .unset, .unset] [(.long (((fi.toInt64) + (3 : Int64)) - (1 : Int64)))])
        refine Go.of (fun _ kz => XS.lstore X25.here hx rfl (hb hby at_159) rfl (l' := #[.val (.int xa), .val (.int xb), .val (.int (2 : Int32)), .val (.int (3 : Int32)), .val (.int fi), .val (.ref b19), .val (.double (4604930618986332160 : UInt64)), .second, .val (.ref b23), .val (.long (((fi.toInt64) + (3 : Int64)) - (1 : Int64))), .second, .unset]) rfl kz) ?_
        show Go p e below _ T25 (mkF m 161 #[.val (.int xa), .val (.int xb), .val (.int (2 : Int32)), .val (.int (3 : Int32)), .val (.int fi), .val (.ref b19), .val (.double (4604930618986332160 : UInt64)), .second, .val (.ref b23), .val (.long (((fi.toInt64) + (3 : Int64)) - (1 : Int64))), .second, .unset] [])
        refine Go.of (fun _ kz => XS.aload X25.here hx rfl (hb hby at_161) rfl rfl kz) ?_
        show Go p e below _ T25 (mkF m 163 #[.val (.int xa), .val (.int xb), .val (.int (2 : Int32)), .val (.int (3 : Int32)), .val (.int fi), .val (.ref b19), .val (.double (4604930618986332160 : UInt64)), .second, .val (.ref b23), .val (.long (((fi.toInt64) + (3 : Int64)) - (1 : Int64))), .second, .unset] [(.ref b23)])
        refine Go.callVP (W := 0) (y := (⟨"com/example/vestry/vestry/actuarial/MortalityTable", "maximumAge", "()I"⟩ : MethodName)) (z := (⟨"com/example/vestry/vestry/actuarial/MortalityTable", "maximumAge", "()I"⟩ : MethodName)) (a := b23) (argsL := []) (rest := []) (r := some (.int ((fi + (3 : Int32)) - (1 : Int32)))) X25 hx hZ hown (hw _ (List.mem_of_getElem? (i := 47) rfl)) (hw _ (List.mem_of_getElem? (i := 48) rfl)) (notFace_of_selects (args := #[]) (mvT hZ (hw _ (List.mem_of_getElem? (i := 50) rfl)))) (hw _ (List.mem_of_getElem? (i := 50) rfl)) (hw _ (List.mem_of_getElem? (i := 49) rfl)) (hw _ (List.mem_of_getElem? (i := 11) rfl)) (hw _ (List.mem_of_getElem? (i := 51) rfl)) (by decide) (own_rmMax l Z a0 hw b23 bb25 fi (3 : Int32) kb25 [(.double (4607182418800017408 : UInt64)), (.double (0 : UInt64)), (.double (4604930618986332160 : UInt64))] (.double 0) T25.heap A25 FM25 FR25 VB25) rfl A25 (by rw [hml]; rfl) (lenOf own_dsc1 rfl) (hb hby at_163) rfl (Nat.le_of_eq rfl) (by decide) (by decide) (by decide) (by decide) fun T26 X26 e26 => ?_
        show Go p e below _ T26 (mkF m 166 #[.val (.int xa), .val (.int xb), .val (.int (2 : Int32)), .val (.int (3 : Int32)), .val (.int fi), .val (.ref b19), .val (.double (4604930618986332160 : UInt64)), .second, .val (.ref b23), .val (.long (((fi.toInt64) + (3 : Int64)) - (1 : Int64))), .second, .unset] [(.int ((fi + (3 : Int32)) - (1 : Int32)))])
        refine Go.of (fun _ kz => XS.istore X26.here hx rfl (hb hby at_166) rfl (l' := #[.val (.int xa), .val (.int xb), .val (.int (2 : Int32)), .val (.int (3 : Int32)), .val (.int fi), .val (.ref b19), .val (.double (4604930618986332160 : UInt64)), .second, .val (.ref b23), .val (.long (((fi.toInt64) + (3 : Int64)) - (1 : Int64))), .second, .val (.int ((fi + (3 : Int32)) - (1 : Int32)))]) rfl kz) ?_
        show Go p e below _ T26 (mkF m 168 #[.val (.int xa), .val (.int xb), .val (.int (2 : Int32)), .val (.int (3 : Int32)), .val (.int fi), .val (.ref b19), .val (.double (4604930618986332160 : UInt64)), .second, .val (.ref b23), .val (.long (((fi.toInt64) + (3 : Int64)) - (1 : Int64))), .second, .val (.int ((fi + (3 : Int32)) - (1 : Int32)))] [])
        refine Go.of (fun _ kz => XS.iload X26.here hx rfl (hb hby at_168) rfl kz) ?_
        show Go p e below _ T26 (mkF m 170 #[.val (.int xa), .val (.int xb), .val (.int (2 : Int32)), .val (.int (3 : Int32)), .val (.int fi), .val (.ref b19), .val (.double (4604930618986332160 : UInt64)), .second, .val (.ref b23), .val (.long (((fi.toInt64) + (3 : Int64)) - (1 : Int64))), .second, .val (.int ((fi + (3 : Int32)) - (1 : Int32)))] [(.int ((fi + (3 : Int32)) - (1 : Int32)))])
        refine Go.of (fun _ kz => XS.i2l X26.here hx rfl (hb hby at_170) rfl kz) ?_
        show Go p e below _ T26 (mkF m 171 #[.val (.int xa), .val (.int xb), .val (.int (2 : Int32)), .val (.int (3 : Int32)), .val (.int fi), .val (.ref b19), .val (.double (4604930618986332160 : UInt64)), .second, .val (.ref b23), .val (.long (((fi.toInt64) + (3 : Int64)) - (1 : Int64))), .second, .val (.int ((fi + (3 : Int32)) - (1 : Int32)))] [(.long (((fi + (3 : Int32)) - (1 : Int32)).toInt64))])
        refine Go.of (fun _ kz => XS.lload X26.here hx rfl (hb hby at_171) rfl kz) ?_
        show Go p e below _ T26 (mkF m 173 #[.val (.int xa), .val (.int xb), .val (.int (2 : Int32)), .val (.int (3 : Int32)), .val (.int fi), .val (.ref b19), .val (.double (4604930618986332160 : UInt64)), .second, .val (.ref b23), .val (.long (((fi.toInt64) + (3 : Int64)) - (1 : Int64))), .second, .val (.int ((fi + (3 : Int32)) - (1 : Int32)))] [(.long (((fi.toInt64) + (3 : Int64)) - (1 : Int64))), (.long (((fi + (3 : Int32)) - (1 : Int32)).toInt64))])
        refine Go.of (fun _ kz => XS.lcmp X26.here hx rfl (hb hby at_173) rfl kz) ?_
        show Go p e below _ T26 (mkF m 174 #[.val (.int xa), .val (.int xb), .val (.int (2 : Int32)), .val (.int (3 : Int32)), .val (.int fi), .val (.ref b19), .val (.double (4604930618986332160 : UInt64)), .second, .val (.ref b23), .val (.long (((fi.toInt64) + (3 : Int64)) - (1 : Int64))), .second, .val (.int ((fi + (3 : Int32)) - (1 : Int32)))] [(.int (XS.cmpL (((fi + (3 : Int32)) - (1 : Int32)).toInt64) (((fi.toInt64) + (3 : Int64)) - (1 : Int64))))])
        refine Go.of (fun _ kz => XS.ifNo X26.here hx rfl (hb hby at_174) rfl ((if0 _ _).trans (teq (own_cmp0 (own_same (n := 3) hfi.1 rfl rfl (by decide) (by decide) hf1) : (XS.cmpL (((fi + (3 : Int32)) - (1 : Int32)).toInt64) (((fi.toInt64) + (3 : Int64)) - (1 : Int64))) = (0 : Int32))).2) kz) ?_
        show Go p e below _ T26 (mkF m 177 #[.val (.int xa), .val (.int xb), .val (.int (2 : Int32)), .val (.int (3 : Int32)), .val (.int fi), .val (.ref b19), .val (.double (4604930618986332160 : UInt64)), .second, .val (.ref b23), .val (.long (((fi.toInt64) + (3 : Int64)) - (1 : Int64))), .second, .val (.int ((fi + (3 : Int32)) - (1 : Int32)))] [])
        refine Go.of (fun _ kz => XS.iload X26.here hx rfl (hb hby at_177) rfl kz) ?_
        show Go p e below _ T26 (mkF m 179 #[.val (.int xa), .val (.int xb), .val (.int (2 : Int32)), .val (.int (3 : Int32)), .val (.int fi), .val (.ref b19), .val (.double (4604930618986332160 : UInt64)), .second, .val (.ref b23), .val (.long (((fi.toInt64) + (3 : Int64)) - (1 : Int64))), .second, .val (.int ((fi + (3 : Int32)) - (1 : Int32)))] [(.int ((fi + (3 : Int32)) - (1 : Int32)))])
        refine Go.of (fun _ kz => XS.aload X26.here hx rfl (hb hby at_179) rfl rfl kz) ?_
        show Go p e below _ T26 (mkF m 181 #[.val (.int xa), .val (.int xb), .val (.int (2 : Int32)), .val (.int (3 : Int32)), .val (.int fi), .val (.ref b19), .val (.double (4604930618986332160 : UInt64)), .second, .val (.ref b23), .val (.long (((fi.toInt64) + (3 : Int64)) - (1 : Int64))), .second, .val (.int ((fi + (3 : Int32)) - (1 : Int32)))] [(.ref b23), (.int ((fi + (3 : Int32)) - (1 : Int32)))])
        refine Go.callVP (W := 1) (y := (⟨"com/example/vestry/vestry/actuarial/MortalityTable", "minimumAge", "()I"⟩ : MethodName)) (z := (⟨"com/example/vestry/vestry/actuarial/MortalityTable", "minimumAge", "()I"⟩ : MethodName)) (a := b23) (argsL := []) (rest := [(.int ((fi + (3 : Int32)) - (1 : Int32)))]) (r := some (.int fi)) X26 hx hZ hown (hw _ (List.mem_of_getElem? (i := 52) rfl)) (hw _ (List.mem_of_getElem? (i := 53) rfl)) (notFace_of_selects (args := #[]) (mvT hZ (hw _ (List.mem_of_getElem? (i := 55) rfl)))) (hw _ (List.mem_of_getElem? (i := 55) rfl)) (hw _ (List.mem_of_getElem? (i := 54) rfl)) (hw _ (List.mem_of_getElem? (i := 11) rfl)) (hw _ (List.mem_of_getElem? (i := 56) rfl)) (by decide) (own_rmMn l Z a0 hw b23 bb25 fi (3 : Int32) kb25 [(.double (4607182418800017408 : UInt64)), (.double (0 : UInt64)), (.double (4604930618986332160 : UInt64))] (.double 0) T25.heap A25 FM25 FR25 VB25) e26 A25 (by rw [hml]; rfl) (lenOf own_dsc1 rfl) (hb hby at_181) rfl (Nat.le_of_eq rfl) (by decide) (by decide) (by decide) (by decide) fun T27 X27 e27 => ?_
        show Go p e below _ T27 (mkF m 184 #[.val (.int xa), .val (.int xb), .val (.int (2 : Int32)), .val (.int (3 : Int32)), .val (.int fi), .val (.ref b19), .val (.double (4604930618986332160 : UInt64)), .second, .val (.ref b23), .val (.long (((fi.toInt64) + (3 : Int64)) - (1 : Int64))), .second, .val (.int ((fi + (3 : Int32)) - (1 : Int32)))] [(.int fi), (.int ((fi + (3 : Int32)) - (1 : Int32)))])
        refine Go.of (fun _ kz => XS.icmpNo X27.here hx rfl (hb hby at_184) rfl (flt (own_ge (n := 3) hfi.1 rfl (by decide) hf1)).1 kz) ?_
        show Go p e below _ T27 (mkF m 187 #[.val (.int xa), .val (.int xb), .val (.int (2 : Int32)), .val (.int (3 : Int32)), .val (.int fi), .val (.ref b19), .val (.double (4604930618986332160 : UInt64)), .second, .val (.ref b23), .val (.long (((fi.toInt64) + (3 : Int64)) - (1 : Int64))), .second, .val (.int ((fi + (3 : Int32)) - (1 : Int32)))] [])
        refine Go.of (fun _ kz => XS.aload X27.here hx rfl (hb hby at_187) rfl rfl kz) ?_
        show Go p e below _ T27 (mkF m 189 #[.val (.int xa), .val (.int xb), .val (.int (2 : Int32)), .val (.int (3 : Int32)), .val (.int fi), .val (.ref b19), .val (.double (4604930618986332160 : UInt64)), .second, .val (.ref b23), .val (.long (((fi.toInt64) + (3 : Int64)) - (1 : Int64))), .second, .val (.int ((fi + (3 : Int32)) - (1 : Int32)))] [(.ref b23)])
        refine Go.of (fun _ kz => XS.iload X27.here hx rfl (hb hby at_189) rfl kz) ?_
        show Go p e below _ T27 (mkF m 191 #[.val (.int xa), .val (.int xb), .val (.int (2 : Int32)), .val (.int (3 : Int32)), .val (.int fi), .val (.ref b19), .val (.double (4604930618986332160 : UInt64)), .second, .val (.ref b23), .val (.long (((fi.toInt64) + (3 : Int64)) - (1 : Int64))), .second, .val (.int ((fi + (3 : Int32)) - (1 : Int32)))] [(.int ((fi + (3 : Int32)) - (1 : Int32))), (.ref b23)])
        refine Go.callVP (W := 0) (y := (⟨"com/example/vestry/vestry/actuarial/MortalityTable", "rate", "(I)D"⟩ : MethodName)) (z := (⟨"com/example/vestry/vestry/actuarial/MortalityTable", "rate", "(I)D"⟩ : MethodName)) (a := b23) (argsL := [(.int ((fi + (3 : Int32)) - (1 : Int32)))]) (rest := []) (r := some (.double (4604930618986332160 : UInt64))) X27 hx hZ hown (hw _ (List.mem_of_getElem? (i := 57) rfl)) (hw _ (List.mem_of_getElem? (i := 58) rfl)) (notFace_of_selects (args := #[]) (mvT hZ (hw _ (List.mem_of_getElem? (i := 60) rfl)))) (hw _ (List.mem_of_getElem? (i := 60) rfl)) (hw _ (List.mem_of_getElem? (i := 59) rfl)) (hw _ (List.mem_of_getElem? (i := 11) rfl)) (hw _ (List.mem_of_getElem? (i := 61) rfl)) (by decide) (own_rmRa l Z a0 hw b23 bb25 fi (3 : Int32) kb25 [(.double (4607182418800017408 : UInt64)), (.double (0 : UInt64)), (.double (4604930618986332160 : UInt64))] (.double 0) (4604930618986332160 : UInt64) T25.heap A25 FM25 FR25 VB25 (own_ge (n := 3) hfi.1 rfl (by decide) hf1) (by decide) rfl) e27 A25 (by rw [hml]; rfl) (lenOf own_dsc5 rfl) (hb hby at_191) rfl (Nat.le_of_eq rfl) (by decide) (by decide) (by decide) (by decide) fun T28 X28 e28 => ?_
        show Go p e below _ T28 (mkF m 194 #[.val (.int xa), .val (.int xb), .val (.int (2 : Int32)), .val (.int (3 : Int32)), .val (.int fi), .val (.ref b19), .val (.double (4604930618986332160 : UInt64)), .second, .val (.ref b23), .val (.long (((fi.toInt64) + (3 : Int64)) - (1 : Int64))), .second, .val (.int ((fi + (3 : Int32)) - (1 : Int32)))] [(.double (4604930618986332160 : UInt64))])
        refine Go.of (fun _ kz => XS.dload X28.here hx rfl (hb hby at_194) rfl kz) ?_
        show Go p e below _ T28 (mkF m 196 #[.val (.int xa), .val (.int xb), .val (.int (2 : Int32)), .val (.int (3 : Int32)), .val (.int fi), .val (.ref b19), .val (.double (4604930618986332160 : UInt64)), .second, .val (.ref b23), .val (.long (((fi.toInt64) + (3 : Int64)) - (1 : Int64))), .second, .val (.int ((fi + (3 : Int32)) - (1 : Int32)))] [(.double (4604930618986332160 : UInt64)), (.double (4604930618986332160 : UInt64))])
        refine Go.of (fun _ kz => XS.dcmpS X28.here hx rfl (hb hby at_196) rfl rfl kz) ?_
        show Go p e below _ T28 (mkF m 197 #[.val (.int xa), .val (.int xb), .val (.int (2 : Int32)), .val (.int (3 : Int32)), .val (.int fi), .val (.ref b19), .val (.double (4604930618986332160 : UInt64)), .second, .val (.ref b23), .val (.long (((fi.toInt64) + (3 : Int64)) - (1 : Int64))), .second, .val (.int ((fi + (3 : Int32)) - (1 : Int32)))] [(.int (cmpValue (FP.dcmp (4604930618986332160 : UInt64) (4604930618986332160 : UInt64)) .l))])
        refine Go.of (fun _ kz => XS.ifNo X28.here hx rfl (hb hby at_197) rfl ((if0 _ _).trans (teq (by decide +kernel : (cmpValue (FP.dcmp (4604930618986332160 : UInt64) (4604930618986332160 : UInt64)) .l) = (0 : Int32))).2) kz) ?_
        show Go p e below _ T28 (mkF m 200 #[.val (.int xa), .val (.int xb), .val (.int (2 : Int32)), .val (.int (3 : Int32)), .val (.int fi), .val (.ref b19), .val (.double (4604930618986332160 : UInt64)), .second, .val (.ref b23), .val (.long (((fi.toInt64) + (3 : Int64)) - (1 : Int64))), .second, .val (.int ((fi + (3 : Int32)) - (1 : Int32)))] [])
        refine Go.of (fun _ kz => XS.iconst X28.here hx rfl (hb hby at_200) kz) ?_
        show Go p e below _ T28 (mkF m 201 #[.val (.int xa), .val (.int xb), .val (.int (2 : Int32)), .val (.int (3 : Int32)), .val (.int fi), .val (.ref b19), .val (.double (4604930618986332160 : UInt64)), .second, .val (.ref b23), .val (.long (((fi.toInt64) + (3 : Int64)) - (1 : Int64))), .second, .val (.int ((fi + (3 : Int32)) - (1 : Int32)))] [(.int (1 : Int32))])
        refine Go.of (fun _ kz => XS.goto X28.here hx rfl (pc0 := 201) (pc' := 205) rfl (hb hby at_201) (by decide) (by decide) kz) ?_
        show Go p e below _ T28 (mkF m 205 #[.val (.int xa), .val (.int xb), .val (.int (2 : Int32)), .val (.int (3 : Int32)), .val (.int fi), .val (.ref b19), .val (.double (4604930618986332160 : UInt64)), .second, .val (.ref b23), .val (.long (((fi.toInt64) + (3 : Int64)) - (1 : Int64))), .second, .val (.int ((fi + (3 : Int32)) - (1 : Int32)))] [(.int (1 : Int32))])
        exact Go.retNW X28 hx hS (by rw [e28]; exact (Nat.le_refl _)) hlk (t := .boolean) hret (by simp) (hb hby at_205) (by decide) (by decide) ⟨rfl, N25⟩
      ·
        refine Go.of (fun _ kz => XS.icmpYes X1.here hx rfl (pc0 := 74) (pc' := 104) rfl (hb hby at_74) rfl (feq hc74).2 (by decide) (by decide) kz) ?_
        show Go p e below _ T1 (mkF m 104 #[.val (.int xa), .val (.int xb), .val (.int kk), .val (.int (kk + (1 : Int32))), .val (.int fi), .unset, .unset, .unset, .unset, .unset, .unset, .unset] [])
        obtain rfl : kk = 3 := own_k3 hkk hc22 hc46 hc74
        have hf1 : fi.toInt + (4 - 1 : Nat) ≤ 2147483647 := hfi.2
        show Go p e below _ T1 (mkF m 104 #[.val (.int xa), .val (.int xb), .val (.int (3 : Int32)), .val (.int (4 : Int32)), .val (.int fi), .unset, .unset, .unset, .unset, .unset, .unset, .unset] [])
        refine Go.of (fun _ kz => XS.iconst X1.here hx rfl (hb hby at_104) kz) ?_
        show Go p e below _ T1 (mkF m 105 #[.val (.int xa), .val (.int xb), .val (.int (3 : Int32)), .val (.int (4 : Int32)), .val (.int fi), .unset, .unset, .unset, .unset, .unset, .unset, .unset] [(.int (4 : Int32))])
        refine Go.newarrE X1 hx hZ (ad := "[D") (by decide) (hw _ (List.mem_of_getElem? (i := 5) rfl)) e1 4 (by decide) (by decide) (by decide) (by decide) (by decide) (hb hby at_105) fun T29 h29 b29 k29 g29 X29 e29 E29 V29 A29 => ?_
        have ge_b29 : h0.size ≤ b29 := g29 ▸ (Nat.le_refl _)
        have sz29 : h0.size ≤ h29.size := Nat.le_trans (Nat.le_refl _) E29.1
        have hk29 : 0 ≤ h29.size := Nat.le_trans hk E29.1
        have V29 : Arv Z h29 b29 k29 .double (4 : Int32) [(.double 0), (.double 0), (.double 0), (.double 0)] (.double 0) := V29
        show Go p e below _ T29 (mkF m 107 #[.val (.int xa), .val (.int xb), .val (.int (3 : Int32)), .val (.int (4 : Int32)), .val (.int fi), .unset, .unset, .unset, .unset, .unset, .unset, .unset] [(.ref b29)])
        refine Go.of (fun _ kz => XS.dup X29.here hx rfl (hb hby at_107) rfl rfl kz) ?_
        show Go p e below _ T29 (mkF m 108 #[.val (.int xa), .val (.int xb), .val (.int (3 : Int32)), .val (.int (4 : Int32)), .val (.int fi), .unset, .unset, .unset, .unset, .unset, .unset, .unset] [(.ref b29), (.ref b29)])
        refine Go.of (fun _ kz => XS.iconst X29.here hx rfl (hb hby at_108) kz) ?_
        show Go p e below _ T29 (mkF m 109 #[.val (.int xa), .val (.int xb), .val (.int (3 : Int32)), .val (.int (4 : Int32)), .val (.int fi), .unset, .unset, .unset, .unset, .unset, .unset, .unset] [(.int (0 : Int32)), (.ref b29), (.ref b29)])
        refine Go.of (X29.ldc2DoubleC hx hown (mvT hZ (hw _ (List.mem_of_getElem? (i := 6) rfl))) (g := (mkF m 109 #[.val (.int xa), .val (.int xb), .val (.int (3 : Int32)), .val (.int (4 : Int32)), .val (.int fi), .unset, .unset, .unset, .unset, .unset, .unset, .unset] [(.int (0 : Int32)), (.ref b29), (.ref b29)])) rfl (hb hby at_109)) ?_
        show Go p e below _ T29 (mkF m 112 #[.val (.int xa), .val (.int xb), .val (.int (3 : Int32)), .val (.int (4 : Int32)), .val (.int fi), .unset, .unset, .unset, .unset, .unset, .unset, .unset] [(.double (4593671619917905920 : UInt64)), (.int (0 : Int32)), (.ref b29), (.ref b29)])
        refine Go.dastore X29 hx hZ e29 V29 ⟨by decide, by decide⟩ 0 rfl (Nat.le_of_ble_eq_true rfl) (hb hby at_112) fun T30 h30 X30 e30 W30 V30 => ?_
        have sz30 : h0.size ≤ h30.size := Nat.le_trans sz29 (Keep.of_wr W30).1
        have hk30 : 0 ≤ h30.size := Nat.le_trans hk29 (Keep.of_wr W30).1
        have N30 := Fr.snoc X30 (Fr.nil _) ge_b29
        have V30 : Arv Z h30 b29 k29 .double (4 : Int32) [(.double (4593671619917905920 : UInt64)), (.double 0), (.double 0), (.double 0)] (.double 0) := V30
        show Go p e below _ T30 (mkF m 113 #[.val (.int xa), .val (.int xb), .val (.int (3 : Int32)), .val (.int (4 : Int32)), .val (.int fi), .unset, .unset, .unset, .unset, .unset, .unset, .unset] [(.ref b29)])
        refine Go.of (fun _ kz => XS.dup X30.here hx rfl (hb hby at_113) rfl rfl kz) ?_
        show Go p e below _ T30 (mkF m 114 #[.val (.int xa), .val (.int xb), .val (.int (3 : Int32)), .val (.int (4 : Int32)), .val (.int fi), .unset, .unset, .unset, .unset, .unset, .unset, .unset] [(.ref b29), (.ref b29)])
        refine Go.of (fun _ kz => XS.iconst X30.here hx rfl (hb hby at_114) kz) ?_
        show Go p e below _ T30 (mkF m 115 #[.val (.int xa), .val (.int xb), .val (.int (3 : Int32)), .val (.int (4 : Int32)), .val (.int fi), .unset, .unset, .unset, .unset, .unset, .unset, .unset] [(.int (1 : Int32)), (.ref b29), (.ref b29)])
        refine Go.of (fun _ kz => XS.dconst1 X30.here hx rfl (hb hby at_115) (v := 4607182418800017408) (by decide +kernel) kz) ?_
        show Go p e below _ T30 (mkF m 116 #[.val (.int xa), .val (.int xb), .val (.int (3 : Int32)), .val (.int (4 : Int32)), .val (.int fi), .unset, .unset, .unset, .unset, .unset, .unset, .unset] [(.double (4607182418800017408 : UInt64)), (.int (1 : Int32)), (.ref b29), (.ref b29)])
        refine Go.dastore X30 hx hZ e30 V30 ⟨by decide, by decide⟩ 1 rfl (Nat.le_of_ble_eq_true rfl) (hb hby at_116) fun T31 h31 X31 e31 W31 V31 => ?_
        have sz31 : h0.size ≤ h31.size := Nat.le_trans sz30 (Keep.of_wr W31).1
        have hk31 : 0 ≤ h31.size := Nat.le_trans hk30 (Keep.of_wr W31).1
        have N31 := Fr.snoc X31 N30 ge_b29
        have V31 : Arv Z h31 b29 k29 .double (4 : Int32) [(.double (4593671619917905920 : UInt64)), (.double (4607182418800017408 : UInt64)), (.double 0), (.double 0)] (.double 0) := V31
        show Go p e below _ T31 (mkF m 117 #[.val (.int xa), .val (.int xb), .val (.int (3 : Int32)), .val (.int (4 : Int32)), .val (.int fi), .unset, .unset, .unset, .unset, .unset, .unset, .unset] [(.ref b29)])
        refine Go.of (fun _ kz => XS.dup X31.here hx rfl (hb hby at_117) rfl rfl kz) ?_
        show Go p e below _ T31 (mkF m 118 #[.val (.int xa), .val (.int xb), .val (.int (3 : Int32)), .val (.int (4 : Int32)), .val (.int fi), .unset, .unset, .unset, .unset, .unset, .unset, .unset] [(.ref b29), (.ref b29)])
        refine Go.of (fun _ kz => XS.iconst X31.here hx rfl (hb hby at_118) kz) ?_
        show Go p e below _ T31 (mkF m 119 #[.val (.int xa), .val (.int xb), .val (.int (3 : Int32)), .val (.int (4 : Int32)), .val (.int fi), .unset, .unset, .unset, .unset, .unset, .unset, .unset] [(.int (2 : Int32)), (.ref b29), (.ref b29)])
        refine Go.of (X31.ldc2DoubleC hx hown (mvT hZ (hw _ (List.mem_of_getElem? (i := 7) rfl))) (g := (mkF m 119 #[.val (.int xa), .val (.int xb), .val (.int (3 : Int32)), .val (.int (4 : Int32)), .val (.int fi), .unset, .unset, .unset, .unset, .unset, .unset, .unset] [(.int (2 : Int32)), (.ref b29), (.ref b29)])) rfl (hb hby at_119)) ?_
        show Go p e below _ T31 (mkF m 122 #[.val (.int xa), .val (.int xb), .val (.int (3 : Int32)), .val (.int (4 : Int32)), .val (.int fi), .unset, .unset, .unset, .unset, .unset, .unset, .unset] [(.double (4602678819172646912 : UInt64)), (.int (2 : Int32)), (.ref b29), (.ref b29)])
        refine Go.dastore X31 hx hZ e31 V31 ⟨by decide, by decide⟩ 2 rfl (Nat.le_of_ble_eq_true rfl) (hb hby at_122) fun T32 h32 X32 e32 W32 V32 => ?_
        have sz32 : h0.size ≤ h32.size := Nat.le_trans sz31 (Keep.of_wr W32).1
        have hk32 : 0 ≤ h32.size := Nat.le_trans hk31 (Keep.of_wr W32).1
        have N32 := Fr.snoc X32 N31 ge_b29
        have V32 : Arv Z h32 b29 k29 .double (4 : Int32) [(.double (4593671619917905920 : UInt64)), (.double (4607182418800017408 : UInt64)), (.double (4602678819172646912 : UInt64)), (.double 0)] (.double 0) := V32
        show Go p e below _ T32 (mkF m 123 #[.val (.int xa), .val (.int xb), .val (.int (3 : Int32)), .val (.int (4 : Int32)), .val (.int fi), .unset, .unset, .unset, .unset, .unset, .unset, .unset] [(.ref b29)])
        refine Go.of (fun _ kz => XS.dup X32.here hx rfl (hb hby at_123) rfl rfl kz) ?_
        show Go p e below _ T32 (mkF m 124 #[.val (.int xa), .val (.int xb), .val (.int (3 : Int32)), .val (.int (4 : Int32)), .val (.int fi), .unset, .unset, .unset, .unset, .unset, .unset, .unset] [(.ref b29), (.ref b29)])
        refine Go.of (fun _ kz => XS.iconst X32.here hx rfl (hb hby at_124) kz) ?_
        show Go p e below _ T32 (mkF m 125 #[.val (.int xa), .val (.int xb), .val (.int (3 : Int32)), .val (.int (4 : Int32)), .val (.int fi), .unset, .unset, .unset, .unset, .unset, .unset, .unset] [(.int (3 : Int32)), (.ref b29), (.ref b29)])
        refine Go.of (X32.ldc2DoubleC hx hown (mvT hZ (hw _ (List.mem_of_getElem? (i := 8) rfl))) (g := (mkF m 125 #[.val (.int xa), .val (.int xb), .val (.int (3 : Int32)), .val (.int (4 : Int32)), .val (.int fi), .unset, .unset, .unset, .unset, .unset, .unset, .unset] [(.int (3 : Int32)), (.ref b29), (.ref b29)])) rfl (hb hby at_125)) ?_
        show Go p e below _ T32 (mkF m 128 #[.val (.int xa), .val (.int xb), .val (.int (3 : Int32)), .val (.int (4 : Int32)), .val (.int fi), .unset, .unset, .unset, .unset, .unset, .unset, .unset] [(.double (4600427019358961664 : UInt64)), (.int (3 : Int32)), (.ref b29), (.ref b29)])
        refine Go.dastore X32 hx hZ e32 V32 ⟨by decide, by decide⟩ 3 rfl (Nat.le_of_ble_eq_true rfl) (hb hby at_128) fun T33 h33 X33 e33 W33 V33 => ?_
        have sz33 : h0.size ≤ h33.size := Nat.le_trans sz32 (Keep.of_wr W33).1
        have hk33 : 0 ≤ h33.size := Nat.le_trans hk32 (Keep.of_wr W33).1
        have N33 := Fr.snoc X33 N32 ge_b29
        have V33 : Arv Z h33 b29 k29 .double (4 : Int32) [(.double (4593671619917905920 : UInt64)), (.double (4607182418800017408 : UInt64)), (.double (4602678819172646912 : UInt64)), (.double (4600427019358961664 : UInt64))] (.double 0) := V33
        show Go p e below _ T33 (mkF m 129 #[.val (.int xa), .val (.int xb), .val (.int (3 : Int32)), .val (.int (4 : Int32)), .val (.int fi), .unset, .unset, .unset, .unset, .unset, .unset, .unset] [(.ref b29)])
        refine Go.of (fun _ kz => XS.astore X33.here hx rfl (hb hby at_129) rfl rfl (l' := #[.val (.int xa), .val (.int xb), .val (.int (3 : Int32)), .val (.int (4 : Int32)), .val (.int fi), .val (.ref b29), .unset, .unset, .unset, .unset, .unset, .unset]) rfl kz) ?_
        show Go p e below _ T33 (mkF m 131 #[.val (.int xa), .val (.int xb), .val (.int (3 : Int32)), .val (.int (4 : Int32)), .val (.int fi), .val (.ref b29), .unset, .unset, .unset, .unset, .unset, .unset] [])
        refine Go.of (X33.ldc2DoubleC hx hown (mvT hZ (hw _ (List.mem_of_getElem? (i := 8) rfl))) (g := (mkF m 131 #[.val (.int xa), .val (.int xb), .val (.int (3 : Int32)), .val (.int (4 : Int32)), .val (.int fi), .val (.ref b29), .unset, .unset, .unset, .unset, .unset, .unset] [])) rfl (hb hby at_131)) ?_
        show Go p e below _ T33 (mkF m 134 #[.val (.int xa), .val (.int xb), .val (.int (3 : Int32)), .val (.int (4 : Int32)), .val (.int fi), .val (.ref b29), .unset, .unset, .unset, .unset, .unset, .unset] [(.double (4600427019358961664 : UInt64))])
        refine Go.of (fun _ kz => XS.dstore X33.here hx rfl (hb hby at_134) rfl (l' := #[.val (.int xa), .val (.int xb), .val (.int (3 : Int32)), .val (.int (4 : Int32)), .val (.int fi), .val (.ref b29), .val (.double (4600427019358961664 : UInt64)), .second, .unset, .unset, .unset, .unset]) rfl kz) ?_
        show Go p e below _ T33 (mkF m 136 #[.val (.int xa), .val (.int xb), .val (.int (3 : Int32)), .val (.int (4 : Int32)), .val (.int fi), .val (.ref b29), .val (.double (4600427019358961664 : UInt64)), .second, .unset, .unset, .unset, .unset] [])
        refine Go.new X33 hx hZ hown (hw _ (List.mem_of_getElem? (i := 9) rfl)) (hw _ (List.mem_of_getElem? (i := 10) rfl)) (hw _ (List.mem_of_getElem? (i := 11) rfl)) e33 (hb hby at_136) (by decide) (by decide) fun T34 h34 b34 g34 X34 e34 E34 A34 D34 => ?_
        have lt_b29_b34 : b29 < b34 := Nat.lt_of_lt_of_le V33.lt (Nat.le_of_eq g34.symm)
        have ge_b34 : h0.size ≤ b34 := g34 ▸ sz33
        have sz34 : h0.size ≤ h34.size := Nat.le_trans sz33 E34.1
        have hk34 : 0 ≤ h34.size := Nat.le_trans hk33 E34.1
        have F34_name : Fld Z h34 b34 "com/example/vestry/vestry/actuarial/MortalityTable" "name" "Ljava/lang/String;" .null := D34 (Or.inr (hw _ (List.mem_of_getElem? (i := 33) rfl))) (ty := (.object "java/lang/String")) (by decide)
        have F34_minimumAge : Fld Z h34 b34 "com/example/vestry/vestry/actuarial/MortalityTable" "minimumAge" "I" (.int (0 : Int32)) := D34 (Or.inr (hw _ (List.mem_of_getElem? (i := 35) rfl))) (ty := .int) (by decide)
        have F34_rates : Fld Z h34 b34 "com/example/vestry/vestry/actuarial/MortalityTable" "rates" "[D" .null := D34 (Or.inr (hw _ (List.mem_of_getElem? (i := 46) rfl))) (ty := (.array .double)) (by decide)
        show Go p e below _ T34 (mkF m 139 #[.val (.int xa), .val (.int xb), .val (.int (3 : Int32)), .val (.int (4 : Int32)), .val (.int fi), .val (.ref b29), .val (.double (4600427019358961664 : UInt64)), .second, .unset, .unset, .unset, .unset] [(.ref b34)])
        refine Go.of (fun _ kz => XS.dup X34.here hx rfl (hb hby at_139) rfl rfl kz) ?_
        show Go p e below _ T34 (mkF m 140 #[.val (.int xa), .val (.int xb), .val (.int (3 : Int32)), .val (.int (4 : Int32)), .val (.int fi), .val (.ref b29), .val (.double (4600427019358961664 : UInt64)), .second, .unset, .unset, .unset, .unset] [(.ref b34), (.ref b34)])
        refine Go.ldcS X34 hx hZ hown (hw _ (List.mem_of_getElem? (i := 12) rfl)) wS e34 hS hk34 (hb hby at_140) 4 (by decide) (by decide) (by decide) (by decide) fun b35 T35 h35 k35 X35 e35 E35 hS hk35 hZ hown => ?_
        have sz35 : h0.size ≤ h35.size := Nat.le_trans sz34 E35.1
        show Go p e below _ T35 (mkF m 142 #[.val (.int xa), .val (.int xb), .val (.int (3 : Int32)), .val (.int (4 : Int32)), .val (.int fi), .val (.ref b29), .val (.double (4600427019358961664 : UInt64)), .second, .unset, .unset, .unset, .unset] [(.ref b35), (.ref b34), (.ref b34)])
        refine Go.of (fun _ kz => XS.iload X35.here hx rfl (hb hby at_142) rfl kz) ?_
        show Go p e below _ T35 (mkF m 144 #[.val (.int xa), .val (.int xb), .val (.int (3 : Int32)), .val (.int (4 : Int32)), .val (.int fi), .val (.ref b29), .val (.double (4600427019358961664 : UInt64)), .second, .unset, .unset, .unset, .unset] [(.int fi), (.ref b35), (.ref b34), (.ref b34)])
        refine Go.of (fun _ kz => XS.aload X35.here hx rfl (hb hby at_144) rfl rfl kz) ?_
        show Go p e below _ T35 (mkF m 146 #[.val (.int xa), .val (.int xb), .val (.int (3 : Int32)), .val (.int (4 : Int32)), .val (.int fi), .val (.ref b29), .val (.double (4600427019358961664 : UInt64)), .second, .unset, .unset, .unset, .unset] [(.ref b29), (.int fi), (.ref b35), (.ref b34), (.ref b34)])
        refine Go.callIW (W := 1) (y := (⟨"com/example/vestry/vestry/actuarial/MortalityTable", "<init>", "(Ljava/lang/String;I[D)V"⟩ : MethodName)) (a := b34) (argsL := [(.ref b35), (.int fi), (.ref b29)]) (rest := [(.ref b34)]) X35 hx hZ rfl hown (hw _ (List.mem_of_getElem? (i := 20) rfl)) (hw _ (List.mem_of_getElem? (i := 21) rfl)) (hw _ (List.mem_of_getElem? (i := 11) rfl)) (hw _ (List.mem_of_getElem? (i := 22) rfl)) (by decide) (own_rmC4 l Z a0 hw b34 b35 fi b29 k29 h0.size h35 sz35 ge_b34 ge_b29 (Nat.ne_of_lt lt_b29_b34) (own_nn hfi.1) (own_cmpL (by rw [own_long (n := 4) rfl (by decide)]; show _ ≤ (2147483647 : Int); omega)) (A34.ext E35) (F34_name.ext E35) (F34_minimumAge.ext E35) (F34_rates.ext E35) ((V33.ext E34).ext E35) ((((((A29.wr W30).wr W31).wr W32).wr W33).ext E34).ext E35)) e35 hS hk35 (by rw [hml]; rfl) (lenOf own_dsc4 rfl) (hb hby at_146) rfl (Nat.le_of_eq rfl) (by decide) (by decide) (by decide) (by decide) fun _ T36 L36 X36 hS hZ hown q36 => ?_
        obtain ⟨rfl, N36q, K36, A36, FM36, bb36, kb36, FR36, gb36, VB36⟩ := q36
        have N36 := Fr.app N33 N36q
        have sz36 : h0.size ≤ T36.heap.size := Nat.le_trans sz35 K36.1
        show Go p e below _ T36 (mkF m 149 #[.val (.int xa), .val (.int xb), .val (.int (3 : Int32)), .val (.int (4 : Int32)), .val (.int fi), .val (.ref b29), .val (.double (4600427019358961664 : UInt64)), .second, .unset, .unset, .unset, .unset] [(.ref b34)])
        refine Go.of (fun _ kz => XS.astore X36.here hx rfl (hb hby at_149) rfl rfl (l' := #[.val (.int xa), .val (.int xb), .val (.int (3 : Int32)), .val (.int (4 : Int32)), .val (.int fi), .val (.ref b29), .val (.double (4600427019358961664 : UInt64)), .second, .val (.ref b34), .unset, .unset, .unset]) rfl kz) ?_
        show Go p e below _ T36 (mkF m 151 #[.val (.int xa), .val (.int xb), .val (.int (3 : Int32)), .val (.int (4 : Int32)), .val (.int fi), .val (.ref b29), .val (.double (4600427019358961664 : UInt64)), .second, .val (.ref b34), .unset, .unset, .unset] [])
        refine Go.of (fun _ kz => XS.iload X36.here hx rfl (hb hby at_151) rfl kz) ?_
        show Go p e below _ T36 (mkF m 153 #[.val (.int xa), .val (.int xb), .val (.int (3 : Int32)), .val (.int (4 : Int32)), .val (.int fi), .val (.ref b29), .val (.double (4600427019358961664 : UInt64)), .second, .val (.ref b34), .unset, .unset, .unset] [(.int fi)])
        refine Go.of (fun _ kz => XS.i2l X36.here hx rfl (hb hby at_153) rfl kz) ?_
        show Go p e below _ T36 (mkF m 154 #[.val (.int xa), .val (.int xb), .val (.int (3 : Int32)), .val (.int (4 : Int32)), .val (.int fi), .val (.ref b29), .val (.double (4600427019358961664 : UInt64)), .second, .val (.ref b34), .unset, .unset, .unset] [(.long (fi.toInt64))])
        refine Go.of (fun _ kz => XS.iloadN X36.here hx rfl (hb hby at_154) rfl kz) ?_
        show Go p e below _ T36 (mkF m 155 #[.val (.int xa), .val (.int xb), .val (.int (3 : Int32)), .val (.int (4 : Int32)), .val (.int fi), .val (.ref b29), .val (.double (4600427019358961664 : UInt64)), .second, .val (.ref b34), .unset, .unset, .unset] [(.int (4 : Int32)), (.long (fi.toInt64))])
        refine Go.of (fun _ kz => XS.i2l X36.here hx rfl (hb hby at_155) rfl kz) ?_
        show Go p e below _ T36 (mkF m 156 #[.val (.int xa), .val (.int xb), .val (.int (3 : Int32)), .val (.int (4 : Int32)), .val (.int fi), .val (.ref b29), .val (.double (4600427019358961664 : UInt64)), .second, .val (.ref b34), .unset, .unset, .unset] [(.long (4 : Int64)), (.long (fi.toInt64))])
        refine Go.of (fun _ kz => XS.ladd X36.here hx rfl (hb hby at_156) rfl kz) ?_
        show Go p e below _ T36 (mkF m 157 #[.val (.int xa), .val (.int xb), .val (.int (3 : Int32)), .val (.int (4 : Int32)), .val (.int fi), .val (.ref b29), .val (.double (4600427019358961664 : UInt64)), .second, .val (.ref b34), .unset, .unset, .unset] [(.long ((fi.toInt64) + (4 : Int64)))])
        refine Go.of (fun _ kz => XS.lconst X36.here hx rfl (hb hby at_157) kz) ?_
        show Go p e below _ T36 (mkF m 158 #[.val (.int xa), .val (.int xb), .val (.int (3 : Int32)), .val (.int (4 : Int32)), .val (.int fi), .val (.ref b29), .val (.double (4600427019358961664 : UInt64)), .second, .val (.ref b34), .unset, .unset, .unset] [(.long (1 : Int64)), (.long ((fi.toInt64) + (4 : Int64)))])
        refine Go.of (fun _ kz => XS.lsub X36.here hx rfl (hb hby at_158) rfl kz) ?_
        show Go p e below _ T36 (mkF m 159 #[.val (.int xa), .val (.int xb), .val (.int (3 : Int32)), .val (.int (4 : Int32)), .val (.int fi), .val (.ref b29), .val (.double (4600427019358961664 : UInt64)), .second, .val (.ref b34), .unset, .unset, .unset] [(.long (((fi.toInt64) + (4 : Int64)) - (1 : Int64)))])
        refine Go.of (fun _ kz => XS.lstore X36.here hx rfl (hb hby at_159) rfl (l' := #[.val (.int xa), .val (.int xb), .val (.int (3 : Int32)), .val (.int (4 : Int32)), .val (.int fi), .val (.ref b29), .val (.double (4600427019358961664 : UInt64)), .second, .val (.ref b34), .val (.long (((fi.toInt64) + (4 : Int64)) - (1 : Int64))), .second, .unset]) rfl kz) ?_
        show Go p e below _ T36 (mkF m 161 #[.val (.int xa), .val (.int xb), .val (.int (3 : Int32)), .val (.int (4 : Int32)), .val (.int fi), .val (.ref b29), .val (.double (4600427019358961664 : UInt64)), .second, .val (.ref b34), .val (.long (((fi.toInt64) + (4 : Int64)) - (1 : Int64))), .second, .unset] [])
        refine Go.of (fun _ kz => XS.aload X36.here hx rfl (hb hby at_161) rfl rfl kz) ?_
        show Go p e below _ T36 (mkF m 163 #[.val (.int xa), .val (.int xb), .val (.int (3 : Int32)), .val (.int (4 : Int32)), .val (.int fi), .val (.ref b29), .val (.double (4600427019358961664 : UInt64)), .second, .val (.ref b34), .val (.long (((fi.toInt64) + (4 : Int64)) - (1 : Int64))), .second, .unset] [(.ref b34)])
        refine Go.callVP (W := 0) (y := (⟨"com/example/vestry/vestry/actuarial/MortalityTable", "maximumAge", "()I"⟩ : MethodName)) (z := (⟨"com/example/vestry/vestry/actuarial/MortalityTable", "maximumAge", "()I"⟩ : MethodName)) (a := b34) (argsL := []) (rest := []) (r := some (.int ((fi + (4 : Int32)) - (1 : Int32)))) X36 hx hZ hown (hw _ (List.mem_of_getElem? (i := 47) rfl)) (hw _ (List.mem_of_getElem? (i := 48) rfl)) (notFace_of_selects (args := #[]) (mvT hZ (hw _ (List.mem_of_getElem? (i := 50) rfl)))) (hw _ (List.mem_of_getElem? (i := 50) rfl)) (hw _ (List.mem_of_getElem? (i := 49) rfl)) (hw _ (List.mem_of_getElem? (i := 11) rfl)) (hw _ (List.mem_of_getElem? (i := 51) rfl)) (by decide) (own_rmMax l Z a0 hw b34 bb36 fi (4 : Int32) kb36 [(.double (4593671619917905920 : UInt64)), (.double (4607182418800017408 : UInt64)), (.double (4602678819172646912 : UInt64)), (.double (4600427019358961664 : UInt64))] (.double 0) T36.heap A36 FM36 FR36 VB36) rfl A36 (by rw [hml]; rfl) (lenOf own_dsc1 rfl) (hb hby at_163) rfl (Nat.le_of_eq rfl) (by decide) (by decide) (by decide) (by decide) fun T37 X37 e37 => ?_
        show Go p e below _ T37 (mkF m 166 #[.val (.int xa), .val (.int xb), .val (.int (3 : Int32)), .val (.int (4 : Int32)), .val (.int fi), .val (.ref b29), .val (.double (4600427019358961664 : UInt64)), .second, .val (.ref b34), .val (.long (((fi.toInt64) + (4 : Int64)) - (1 : Int64))), .second, .unset] [(.int ((fi + (4 : Int32)) - (1 : Int32)))])
        refine Go.of (fun _ kz => XS.istore X37.here hx rfl (hb hby at_166) rfl (l' := #[.val (.int xa), .val (.int xb), .val (.int (3 : Int32)), .val (.int (4 : Int32)), .val (.int fi), .val (.ref b29), .val (.double (4600427019358961664 : UInt64)), .second, .val (.ref b34), .val (.long (((fi.toInt64) + (4 : Int64)) - (1 : Int64))), .second, .val (.int ((fi + (4 : Int32)) - (1 : Int32)))]) rfl kz) ?_
        show Go p e below _ T37 (mkF m 168 #[.val (.int xa), .val (.int xb), .val (.int (3 : Int32)), .val (.int (4 : Int32)), .val (.int fi), .val (.ref b29), .val (.double (4600427019358961664 : UInt64)), .second, .val (.ref b34), .val (.long (((fi.toInt64) + (4 : Int64)) - (1 : Int64))), .second, .val (.int ((fi + (4 : Int32)) - (1 : Int32)))] [])
        refine Go.of (fun _ kz => XS.iload X37.here hx rfl (hb hby at_168) rfl kz) ?_
        show Go p e below _ T37 (mkF m 170 #[.val (.int xa), .val (.int xb), .val (.int (3 : Int32)), .val (.int (4 : Int32)), .val (.int fi), .val (.ref b29), .val (.double (4600427019358961664 : UInt64)), .second, .val (.ref b34), .val (.long (((fi.toInt64) + (4 : Int64)) - (1 : Int64))), .second, .val (.int ((fi + (4 : Int32)) - (1 : Int32)))] [(.int ((fi + (4 : Int32)) - (1 : Int32)))])
        refine Go.of (fun _ kz => XS.i2l X37.here hx rfl (hb hby at_170) rfl kz) ?_
        show Go p e below _ T37 (mkF m 171 #[.val (.int xa), .val (.int xb), .val (.int (3 : Int32)), .val (.int (4 : Int32)), .val (.int fi), .val (.ref b29), .val (.double (4600427019358961664 : UInt64)), .second, .val (.ref b34), .val (.long (((fi.toInt64) + (4 : Int64)) - (1 : Int64))), .second, .val (.int ((fi + (4 : Int32)) - (1 : Int32)))] [(.long (((fi + (4 : Int32)) - (1 : Int32)).toInt64))])
        refine Go.of (fun _ kz => XS.lload X37.here hx rfl (hb hby at_171) rfl kz) ?_
        show Go p e below _ T37 (mkF m 173 #[.val (.int xa), .val (.int xb), .val (.int (3 : Int32)), .val (.int (4 : Int32)), .val (.int fi), .val (.ref b29), .val (.double (4600427019358961664 : UInt64)), .second, .val (.ref b34), .val (.long (((fi.toInt64) + (4 : Int64)) - (1 : Int64))), .second, .val (.int ((fi + (4 : Int32)) - (1 : Int32)))] [(.long (((fi.toInt64) + (4 : Int64)) - (1 : Int64))), (.long (((fi + (4 : Int32)) - (1 : Int32)).toInt64))])
        refine Go.of (fun _ kz => XS.lcmp X37.here hx rfl (hb hby at_173) rfl kz) ?_
        show Go p e below _ T37 (mkF m 174 #[.val (.int xa), .val (.int xb), .val (.int (3 : Int32)), .val (.int (4 : Int32)), .val (.int fi), .val (.ref b29), .val (.double (4600427019358961664 : UInt64)), .second, .val (.ref b34), .val (.long (((fi.toInt64) + (4 : Int64)) - (1 : Int64))), .second, .val (.int ((fi + (4 : Int32)) - (1 : Int32)))] [(.int (XS.cmpL (((fi + (4 : Int32)) - (1 : Int32)).toInt64) (((fi.toInt64) + (4 : Int64)) - (1 : Int64))))])
        refine Go.of (fun _ kz => XS.ifNo X37.here hx rfl (hb hby at_174) rfl ((if0 _ _).trans (teq (own_cmp0 (own_same (n := 4) hfi.1 rfl rfl (by decide) (by decide) hf1) : (XS.cmpL (((fi + (4 : Int32)) - (1 : Int32)).toInt64) (((fi.toInt64) + (4 : Int64)) - (1 : Int64))) = (0 : Int32))).2) kz) ?_
        show Go p e below _ T37 (mkF m 177 #[.val (.int xa), .val (.int xb), .val (.int (3 : Int32)), .val (.int (4 : Int32)), .val (.int fi), .val (.ref b29), .val (.double (4600427019358961664 : UInt64)), .second, .val (.ref b34), .val (.long (((fi.toInt64) + (4 : Int64)) - (1 : Int64))), .second, .val (.int ((fi + (4 : Int32)) - (1 : Int32)))] [])
        refine Go.of (fun _ kz => XS.iload X37.here hx rfl (hb hby at_177) rfl kz) ?_
        show Go p e below _ T37 (mkF m 179 #[.val (.int xa), .val (.int xb), .val (.int (3 : Int32)), .val (.int (4 : Int32)), .val (.int fi), .val (.ref b29), .val (.double (4600427019358961664 : UInt64)), .second, .val (.ref b34), .val (.long (((fi.toInt64) + (4 : Int64)) - (1 : Int64))), .second, .val (.int ((fi + (4 : Int32)) - (1 : Int32)))] [(.int ((fi + (4 : Int32)) - (1 : Int32)))])
        refine Go.of (fun _ kz => XS.aload X37.here hx rfl (hb hby at_179) rfl rfl kz) ?_
        show Go p e below _ T37 (mkF m 181 #[.val (.int xa), .val (.int xb), .val (.int (3 : Int32)), .val (.int (4 : Int32)), .val (.int fi), .val (.ref b29), .val (.double (4600427019358961664 : UInt64)), .second, .val (.ref b34), .val (.long (((fi.toInt64) + (4 : Int64)) - (1 : Int64))), .second, .val (.int ((fi + (4 : Int32)) - (1 : Int32)))] [(.ref b34), (.int ((fi + (4 : Int32)) - (1 : Int32)))])
        refine Go.callVP (W := 1) (y := (⟨"com/example/vestry/vestry/actuarial/MortalityTable", "minimumAge", "()I"⟩ : MethodName)) (z := (⟨"com/example/vestry/vestry/actuarial/MortalityTable", "minimumAge", "()I"⟩ : MethodName)) (a := b34) (argsL := []) (rest := [(.int ((fi + (4 : Int32)) - (1 : Int32)))]) (r := some (.int fi)) X37 hx hZ hown (hw _ (List.mem_of_getElem? (i := 52) rfl)) (hw _ (List.mem_of_getElem? (i := 53) rfl)) (notFace_of_selects (args := #[]) (mvT hZ (hw _ (List.mem_of_getElem? (i := 55) rfl)))) (hw _ (List.mem_of_getElem? (i := 55) rfl)) (hw _ (List.mem_of_getElem? (i := 54) rfl)) (hw _ (List.mem_of_getElem? (i := 11) rfl)) (hw _ (List.mem_of_getElem? (i := 56) rfl)) (by decide) (own_rmMn l Z a0 hw b34 bb36 fi (4 : Int32) kb36 [(.double (4593671619917905920 : UInt64)), (.double (4607182418800017408 : UInt64)), (.double (4602678819172646912 : UInt64)), (.double (4600427019358961664 : UInt64))] (.double 0) T36.heap A36 FM36 FR36 VB36) e37 A36 (by rw [hml]; rfl) (lenOf own_dsc1 rfl) (hb hby at_181) rfl (Nat.le_of_eq rfl) (by decide) (by decide) (by decide) (by decide) fun T38 X38 e38 => ?_
        show Go p e below _ T38 (mkF m 184 #[.val (.int xa), .val (.int xb), .val (.int (3 : Int32)), .val (.int (4 : Int32)), .val (.int fi), .val (.ref b29), .val (.double (4600427019358961664 : UInt64)), .second, .val (.ref b34), .val (.long (((fi.toInt64) + (4 : Int64)) - (1 : Int64))), .second, .val (.int ((fi + (4 : Int32)) - (1 : Int32)))] [(.int fi), (.int ((fi + (4 : Int32)) - (1 : Int32)))])
        refine Go.of (fun _ kz => XS.icmpNo X38.here hx rfl (hb hby at_184) rfl (flt (own_ge (n := 4) hfi.1 rfl (by decide) hf1)).1 kz) ?_
        show Go p e below _ T38 (mkF m 187 #[.val (.int xa), .val (.int xb), .val (.int (3 : Int32)), .val (.int (4 : Int32)), .val (.int fi), .val (.ref b29), .val (.double (4600427019358961664 : UInt64)), .second, .val (.ref b34), .val (.long (((fi.toInt64) + (4 : Int64)) - (1 : Int64))), .second, .val (.int ((fi + (4 : Int32)) - (1 : Int32)))] [])
        refine Go.of (fun _ kz => XS.aload X38.here hx rfl (hb hby at_187) rfl rfl kz) ?_
        show Go p e below _ T38 (mkF m 189 #[.val (.int xa), .val (.int xb), .val (.int (3 : Int32)), .val (.int (4 : Int32)), .val (.int fi), .val (.ref b29), .val (.double (4600427019358961664 : UInt64)), .second, .val (.ref b34), .val (.long (((fi.toInt64) + (4 : Int64)) - (1 : Int64))), .second, .val (.int ((fi + (4 : Int32)) - (1 : Int32)))] [(.ref b34)])
        refine Go.of (fun _ kz => XS.iload X38.here hx rfl (hb hby at_189) rfl kz) ?_
        show Go p e below _ T38 (mkF m 191 #[.val (.int xa), .val (.int xb), .val (.int (3 : Int32)), .val (.int (4 : Int32)), .val (.int fi), .val (.ref b29), .val (.double (4600427019358961664 : UInt64)), .second, .val (.ref b34), .val (.long (((fi.toInt64) + (4 : Int64)) - (1 : Int64))), .second, .val (.int ((fi + (4 : Int32)) - (1 : Int32)))] [(.int ((fi + (4 : Int32)) - (1 : Int32))), (.ref b34)])
        refine Go.callVP (W := 0) (y := (⟨"com/example/vestry/vestry/actuarial/MortalityTable", "rate", "(I)D"⟩ : MethodName)) (z := (⟨"com/example/vestry/vestry/actuarial/MortalityTable", "rate", "(I)D"⟩ : MethodName)) (a := b34) (argsL := [(.int ((fi + (4 : Int32)) - (1 : Int32)))]) (rest := []) (r := some (.double (4600427019358961664 : UInt64))) X38 hx hZ hown (hw _ (List.mem_of_getElem? (i := 57) rfl)) (hw _ (List.mem_of_getElem? (i := 58) rfl)) (notFace_of_selects (args := #[]) (mvT hZ (hw _ (List.mem_of_getElem? (i := 60) rfl)))) (hw _ (List.mem_of_getElem? (i := 60) rfl)) (hw _ (List.mem_of_getElem? (i := 59) rfl)) (hw _ (List.mem_of_getElem? (i := 11) rfl)) (hw _ (List.mem_of_getElem? (i := 61) rfl)) (by decide) (own_rmRa l Z a0 hw b34 bb36 fi (4 : Int32) kb36 [(.double (4593671619917905920 : UInt64)), (.double (4607182418800017408 : UInt64)), (.double (4602678819172646912 : UInt64)), (.double (4600427019358961664 : UInt64))] (.double 0) (4600427019358961664 : UInt64) T36.heap A36 FM36 FR36 VB36 (own_ge (n := 4) hfi.1 rfl (by decide) hf1) (by decide) rfl) e38 A36 (by rw [hml]; rfl) (lenOf own_dsc5 rfl) (hb hby at_191) rfl (Nat.le_of_eq rfl) (by decide) (by decide) (by decide) (by decide) fun T39 X39 e39 => ?_
        show Go p e below _ T39 (mkF m 194 #[.val (.int xa), .val (.int xb), .val (.int (3 : Int32)), .val (.int (4 : Int32)), .val (.int fi), .val (.ref b29), .val (.double (4600427019358961664 : UInt64)), .second, .val (.ref b34), .val (.long (((fi.toInt64) + (4 : Int64)) - (1 : Int64))), .second, .val (.int ((fi + (4 : Int32)) - (1 : Int32)))] [(.double (4600427019358961664 : UInt64))])
        refine Go.of (fun _ kz => XS.dload X39.here hx rfl (hb hby at_194) rfl kz) ?_
        show Go p e below _ T39 (mkF m 196 #[.val (.int xa), .val (.int xb), .val (.int (3 : Int32)), .val (.int (4 : Int32)), .val (.int fi), .val (.ref b29), .val (.double (4600427019358961664 : UInt64)), .second, .val (.ref b34), .val (.long (((fi.toInt64) + (4 : Int64)) - (1 : Int64))), .second, .val (.int ((fi + (4 : Int32)) - (1 : Int32)))] [(.double (4600427019358961664 : UInt64)), (.double (4600427019358961664 : UInt64))])
        refine Go.of (fun _ kz => XS.dcmpS X39.here hx rfl (hb hby at_196) rfl rfl kz) ?_
        show Go p e below _ T39 (mkF m 197 #[.val (.int xa), .val (.int xb), .val (.int (3 : Int32)), .val (.int (4 : Int32)), .val (.int fi), .val (.ref b29), .val (.double (4600427019358961664 : UInt64)), .second, .val (.ref b34), .val (.long (((fi.toInt64) + (4 : Int64)) - (1 : Int64))), .second, .val (.int ((fi + (4 : Int32)) - (1 : Int32)))] [(.int (cmpValue (FP.dcmp (4600427019358961664 : UInt64) (4600427019358961664 : UInt64)) .l))])
        refine Go.of (fun _ kz => XS.ifNo X39.here hx rfl (hb hby at_197) rfl ((if0 _ _).trans (teq (by decide +kernel : (cmpValue (FP.dcmp (4600427019358961664 : UInt64) (4600427019358961664 : UInt64)) .l) = (0 : Int32))).2) kz) ?_
        show Go p e below _ T39 (mkF m 200 #[.val (.int xa), .val (.int xb), .val (.int (3 : Int32)), .val (.int (4 : Int32)), .val (.int fi), .val (.ref b29), .val (.double (4600427019358961664 : UInt64)), .second, .val (.ref b34), .val (.long (((fi.toInt64) + (4 : Int64)) - (1 : Int64))), .second, .val (.int ((fi + (4 : Int32)) - (1 : Int32)))] [])
        refine Go.of (fun _ kz => XS.iconst X39.here hx rfl (hb hby at_200) kz) ?_
        show Go p e below _ T39 (mkF m 201 #[.val (.int xa), .val (.int xb), .val (.int (3 : Int32)), .val (.int (4 : Int32)), .val (.int fi), .val (.ref b29), .val (.double (4600427019358961664 : UInt64)), .second, .val (.ref b34), .val (.long (((fi.toInt64) + (4 : Int64)) - (1 : Int64))), .second, .val (.int ((fi + (4 : Int32)) - (1 : Int32)))] [(.int (1 : Int32))])
        refine Go.of (fun _ kz => XS.goto X39.here hx rfl (pc0 := 201) (pc' := 205) rfl (hb hby at_201) (by decide) (by decide) kz) ?_
        show Go p e below _ T39 (mkF m 205 #[.val (.int xa), .val (.int xb), .val (.int (3 : Int32)), .val (.int (4 : Int32)), .val (.int fi), .val (.ref b29), .val (.double (4600427019358961664 : UInt64)), .second, .val (.ref b34), .val (.long (((fi.toInt64) + (4 : Int64)) - (1 : Int64))), .second, .val (.int ((fi + (4 : Int32)) - (1 : Int32)))] [(.int (1 : Int32))])
        exact Go.retNW X39 hx hS (by rw [e39]; exact (Nat.le_refl _)) hlk (t := .boolean) hret (by simp) (hb hby at_205) (by decide) (by decide) ⟨rfl, N36⟩
set_option maxRecDepth 65536 in
set_option maxHeartbeats 40000000 in
theorem comes_1 {Post : Tables → Env → Array Value → State → Outcome → State → Prop} (hpost : ∀ tb e args s v u, (limb_1_1.after args s (.returned v) u = true ∧ limb_1_2.after args s (.returned v) u = true ∧ True) → ReturnedEndW s (.returned v) u (Jvm.fieldLocs frame_1_writes args s ++ Jvm.arrayLocs frame_1_arrays args s ++ Jvm.staticLocs frame_1_statics s) 24 2176 → Post tb e args s (.returned v) u) :
    ArmFor flags0 classFile x code maxLocals ret World_1 tables_1 room_1 Calls_1 rest_1 Pre_1 Post := by
  intro l hfl _ _ p e ha hc hk s m args below hf hA hF happ hP
  obtain ⟨hcalls, hrest, hpre⟩ := hP
  obtain ⟨-, -, -, hnamed, -, -, -, hat⟩ := (Spec.applies_iff hf).mp happ
  obtain ⟨hg, hn⟩ := and_e (Cond.before_iff.mp (show (Jvm.Cond.and given_1 narrow_1).before args s = true from hpre))
  obtain ⟨g0, gg0⟩ := and_e hg
  obtain ⟨ga0, gg1⟩ := and_e gg0
  have ga1 := gg1
  obtain ⟨w0, w1, rfl⟩ : ∃ w0 w1 : Value, args = #[w0, w1] := by
    have hs : args.size = 2 := by simpa [Cond.value, given_1] using g0
    obtain ⟨L⟩ := args
    match L, hs with
    | [w0, w1], _ => exact ⟨w0, w1, rfl⟩
  have hw := fun d (hd : d ∈ tables_1) => atoms_spec (ws := Jvm.Cond.code x code maxLocals ret :: tables_1) hat d (List.mem_cons_of_mem _ hd)
  have hfit : Fit s := fun {y c} hc i hi => by
    obtain ⟨ha, rfl⟩ := Array.getElem?_eq_some_iff.mp hc
    have q := List.all_eq_true.mp ((Array.all_eq_true_iff_forall_mem.mp hF) _ (Array.getElem_mem ha)) i (List.mem_range.mpr hi)
    simpa [Array.getElem?_eq_getElem hi] using q
  obtain ⟨i0, ei0⟩ := is_v ga0
  obtain rfl : w0 = (.int i0) := Option.some.inj ei0
  obtain ⟨i1, ei1⟩ := is_v ga1
  obtain rfl : w1 = (.int i1) := Option.some.inj ei1
  obtain ⟨n, o, h1, h2, h3, _, L, rfl, ⟨rfl, N⟩, hq⟩ := rm0 l s _ hw tables_1 i0 i1 s.heap p e ha hc hk s m _ below hf ((Spec.applies_iff_loose hf).mp happ).1 ⟨rfl, State.Warmed39.refl s, rfl⟩ trivial
  refine ⟨n, _, h1, h2, h3, hpost _ _ _ _ _ _ ⟨Cond.after_iff.mpr rfl, Cond.after_iff.mpr (eq_i res_at (Term.int_eval (1)) rfl), trivial⟩ ⟨hq.1, hq.2.1, hq.2.2.1, (hq.2.2.2.sift fun y hy => Or.inr (N y hy)).mono (by decide) (by decide)⟩⟩
theorem main_1_1 : Claimed_1_1 := comes_1 fun _ _ _ _ _ _ h hF => ⟨h.1, hF⟩
theorem main_1_2 : Claimed_1_2 := comes_1 fun _ _ _ _ _ _ h hF => ⟨h.2.1, hF⟩
end Jvm.Pilot.@@N@@
namespace Jvm.Pilot.@@N@@
open Jvm Jvm.ClassFile Sem Op Lib Jvm.Free Jvm.Stand Jvm.Pilot.@@N@@.Jvm.D
/-! MADE BY PROGRAM (witnessworld.py) out of the Statement's table words and the real class files: 18 classes; the members and pool entries that the words name. The judged class is class 1, her method 1. -/
namespace start1
open Jvm.ClassFile
def u (s : String) : CpInfo := .utf8 (stringToUtf16 s)
/-- a pool by its gaps: so many unusable entries, then the entry; so many at the end -/
def gap : Nat → List CpInfo → List CpInfo
  | 0, r => r
  | n + 1, r => .unusable :: gap n r
def poolList (es : List (Nat × CpInfo)) (last : Nat) : List CpInfo := es.foldr (fun e r => gap e.1 (e.2 :: r)) (gap last [])
def pool (es : List (Nat × CpInfo)) (last : Nat) : Array CpInfo := ⟨poolList es last⟩
def fileOf (pool : Array CpInfo) (this : Nat) (attrs : Array Attribute := #[]) (ms : Array MethodInfo := #[]) (fl : Nat := 33) (sup : Nat := 0) (ifs : Array Nat := #[]) (fds : Array FieldInfo := #[]) : ClassFile where
  minorVersion := 0
  majorVersion := 65
  constantPool := pool
  accessFlags := fl
  thisClass := this
  superClass := sup
  interfaces := ifs
  fields := fds
  methods := ms
  attributes := attrs
def plain (name : String) (sup : Option ClassId) : Class where
  name := name
  kind := .ordinary
  loader := none
  accessFlags := 33
  super := sup
  interfaces := #[]
  cf := none
  fields := #[]
  methods := #[]
  instanceTypes := #[]
  staticTypes := #[]
  resolved := #[]
  callSites := []
  init := .initialized
  statics := none
  mirror := none

def pool0 : Array CpInfo := pool [(5, u "<init>"), (0, u "()V"), (1, .class_ 10), (1, u "java/lang/Object"), (85, u "clone"), (0, u "()Ljava/lang/Object;")] 26

def k0c0 : Code := { maxStack := 0, maxLocals := 1, code := object_method_1_code, exceptionTable := #[], attributes := #[] }
def k0m0 : Method := { name := "<init>", desc := "()V", sig := { parameters := [], returnType := none }, accessFlags := 1, code := some k0c0 }
def k0m1 : Method := { name := "clone", desc := "()Ljava/lang/Object;", sig := { parameters := [], returnType := some (.object "java/lang/Object") }, accessFlags := 260, code := none }
/-- java/lang/Object -/
def k0 : Class := { plain "java/lang/Object" none with
  accessFlags := 33
  interfaces := #[]
  cf := some (fileOf pool0 8 #[] #[{ accessFlags := 1, nameIndex := 5, descriptorIndex := 6, attributes := #[] }, { accessFlags := 260, nameIndex := 96, descriptorIndex := 97, attributes := #[] }] 33 0 #[] #[])
  fields := #[]
  methods := #[k0m0, k0m1]
  instanceTypes := #[]
  staticTypes := #[]
  resolved := Array.replicate 124 none
  statics := none }

def pool1 : Array CpInfo := pool [(2, .class_ 4), (1, u "java/lang/Object"), (0, u "<init>"), (0, u "()V"), (0, .integer 2147483647), (2, .methodref 11 12), (0, .class_ 13), (0, .nameAndType 14 15), (0, u "java/lang/Math"), (0, u "min"), (0, u "(II)I"), (0, .double 4602678819172646912), (1, .double 4598175219545276416), (1, .double 4604930618986332160), (1, .double 4593671619917905920), (1, .double 4600427019358961664), (1, .class_ 27), (0, u "com/example/vestry/vestry/actuarial/MortalityTable"), (0, .string 29), (0, u "t"), (0, .methodref 26 31), (0, .nameAndType 5 32), (0, u "(Ljava/lang/String;I[D)V"), (0, .methodref 26 34), (0, .nameAndType 35 36), (0, u "maximumAge"), (0, u "()I"), (0, .methodref 26 38), (0, .nameAndType 39 36), (0, u "minimumAge"), (0, .methodref 26 41), (0, .nameAndType 42 43), (0, u "rate"), (0, u "(I)D"), (0, .class_ 45), (0, u "com/example/vestry/vestry/actuarial/MortalityTableMaximumAgePinLaw"), (2, u "law"), (0, u "(II)Z")] 5

def k1m0 : Method := { name := "<init>", desc := "()V", sig := { parameters := [], returnType := none }, accessFlags := 1, code := none }
def k1c1 : Code := { maxStack := 5, maxLocals := 12, code := code, exceptionTable := #[], attributes := #[] }
def k1m1 : Method := { name := "law", desc := "(II)Z", sig := { parameters := [.int, .int], returnType := some .boolean }, accessFlags := 9, code := some k1c1 }
/-- com/example/vestry/vestry/actuarial/MortalityTableMaximumAgePinLaw -/
def k1 : Class := { plain "com/example/vestry/vestry/actuarial/MortalityTableMaximumAgePinLaw" (some 0) with
  accessFlags := 49
  interfaces := #[]
  cf := some (fileOf pool1 44 #[] #[{ accessFlags := 1, nameIndex := 5, descriptorIndex := 6, attributes := #[] }, { accessFlags := 9, nameIndex := 48, descriptorIndex := 49, attributes := #[] }] 49 2 #[] #[])
  fields := #[]
  methods := #[k1m0, k1m1]
  instanceTypes := #[]
  staticTypes := #[]
  resolved := Array.replicate 55 none
  statics := none }

def pool2 : Array CpInfo := pool [(1, .class_ 2), (0, u "java/lang/Math"), (1, .class_ 6), (1, u "java/lang/Object"), (0, u "<init>"), (0, u "()V"), (89, .class_ 100), (1, u "java/lang/Math$RandomNumberGeneratorHolder"), (71, u "negativeZeroFloatBits"), (0, u "J"), (2, u "negativeZeroDoubleBits"), (24, u "min"), (43, u "$assertionsDisabled"), (0, u "Z"), (88, u "(II)I"), (2, u "twoToTheDoubleScaleDown"), (0, u "D"), (4, u "twoToTheDoubleScaleUp"), (9, u "E"), (3, u "PI"), (2, u "TAU"), (2, u "DEGREES_TO_RADIANS"), (0, u "RADIANS_TO_DEGREES")] 94

def k2m0 : Method := { name := "<init>", desc := "()V", sig := { parameters := [], returnType := none }, accessFlags := 2, code := none }
def k2c1 : Code := { maxStack := 2, maxLocals := 2, code := jdk_29_method_69_code, exceptionTable := #[], attributes := #[] }
def k2m1 : Method := { name := "min", desc := "(II)I", sig := { parameters := [.int, .int], returnType := some .int }, accessFlags := 9, code := some k2c1 }
/-- java/lang/Math -/
def k2 : Class := { plain "java/lang/Math" (some 0) with
  accessFlags := 49
  interfaces := #[]
  cf := some (fileOf pool2 1 #[.nestMembers #[98]] #[{ accessFlags := 2, nameIndex := 7, descriptorIndex := 8, attributes := #[] }, { accessFlags := 9, nameIndex := 201, descriptorIndex := 335, attributes := #[] }] 49 4 #[] #[{ accessFlags := 25, nameIndex := 354, descriptorIndex := 339, attributes := #[] }, { accessFlags := 25, nameIndex := 358, descriptorIndex := 339, attributes := #[] }, { accessFlags := 25, nameIndex := 361, descriptorIndex := 339, attributes := #[] }, { accessFlags := 26, nameIndex := 364, descriptorIndex := 339, attributes := #[] }, { accessFlags := 26, nameIndex := 365, descriptorIndex := 339, attributes := #[] }, { accessFlags := 26, nameIndex := 172, descriptorIndex := 173, attributes := #[] }, { accessFlags := 26, nameIndex := 176, descriptorIndex := 173, attributes := #[] }, { accessFlags := 8, nameIndex := 344, descriptorIndex := 339, attributes := #[] }, { accessFlags := 8, nameIndex := 338, descriptorIndex := 339, attributes := #[] }, { accessFlags := 4120, nameIndex := 245, descriptorIndex := 246, attributes := #[] }])
  fields := #[{ name := "E", type := .double, accessFlags := 25, slot := 0, constantValue := 0 }, { name := "PI", type := .double, accessFlags := 25, slot := 1, constantValue := 0 }, { name := "TAU", type := .double, accessFlags := 25, slot := 2, constantValue := 0 }, { name := "DEGREES_TO_RADIANS", type := .double, accessFlags := 26, slot := 3, constantValue := 0 }, { name := "RADIANS_TO_DEGREES", type := .double, accessFlags := 26, slot := 4, constantValue := 0 }, { name := "negativeZeroFloatBits", type := .long, accessFlags := 26, slot := 5, constantValue := 0 }, { name := "negativeZeroDoubleBits", type := .long, accessFlags := 26, slot := 6, constantValue := 0 }, { name := "twoToTheDoubleScaleUp", type := .double, accessFlags := 8, slot := 7, constantValue := 0 }, { name := "twoToTheDoubleScaleDown", type := .double, accessFlags := 8, slot := 8, constantValue := 0 }, { name := "$assertionsDisabled", type := .boolean, accessFlags := 4120, slot := 9, constantValue := 0 }]
  methods := #[k2m0, k2m1]
  instanceTypes := #[]
  staticTypes := #[.double, .double, .double, .double, .double, .long, .long, .double, .double, .boolean]
  resolved := Array.replicate 460 none
  statics := none }

def pool3 : Array CpInfo := pool [(1, .methodref 2 3), (0, .class_ 4), (0, .nameAndType 5 6), (0, u "java/lang/Object"), (0, u "<init>"), (0, u "()V"), (0, .string 8), (0, u "name"), (0, .methodref 10 11), (0, .class_ 12), (0, .nameAndType 13 14), (0, u "java/util/Objects"), (0, u "requireNonNull"), (0, u "(Ljava/lang/Object;Ljava/lang/String;)Ljava/lang/Object;"), (13, .long 2147483647), (6, .fieldref 36 37), (0, .class_ 38), (0, .nameAndType 8 39), (0, u "com/example/vestry/vestry/actuarial/MortalityTable"), (0, u "Ljava/lang/String;"), (0, .fieldref 36 41), (0, .nameAndType 42 43), (0, u "minimumAge"), (0, u "I"), (0, .methodref 45 46), (0, .class_ 47), (0, .nameAndType 48 49), (0, u "[D"), (0, u "clone"), (0, u "()Ljava/lang/Object;"), (0, .fieldref 36 51), (0, .nameAndType 52 47), (0, u "rates"), (0, .methodref 36 54), (0, .nameAndType 55 56), (0, u "checkCovers"), (0, u "(I)V"), (0, .methodref 36 58), (0, .nameAndType 59 60), (0, u "maximumAge"), (0, u "()I"), (9, u "(Ljava/lang/String;I[D)V"), (6, u "rate"), (0, u "(I)D")] 21

def k3c0 : Code := { maxStack := 5, maxLocals := 7, code := prog_6_method_1_code, exceptionTable := #[], attributes := #[] }
def k3m0 : Method := { name := "<init>", desc := "(Ljava/lang/String;I[D)V", sig := { parameters := [(.object "java/lang/String"), .int, (.array .double)], returnType := none }, accessFlags := 1, code := some k3c0 }
def k3c1 : Code := { maxStack := 1, maxLocals := 1, code := prog_6_method_3_code, exceptionTable := #[], attributes := #[] }
def k3m1 : Method := { name := "minimumAge", desc := "()I", sig := { parameters := [], returnType := some .int }, accessFlags := 1, code := some k3c1 }
def k3c2 : Code := { maxStack := 2, maxLocals := 1, code := prog_6_method_4_code, exceptionTable := #[], attributes := #[] }
def k3m2 : Method := { name := "maximumAge", desc := "()I", sig := { parameters := [], returnType := some .int }, accessFlags := 1, code := some k3c2 }
def k3c3 : Code := { maxStack := 3, maxLocals := 2, code := prog_6_method_5_code, exceptionTable := #[], attributes := #[] }
def k3m3 : Method := { name := "rate", desc := "(I)D", sig := { parameters := [.int], returnType := some .double }, accessFlags := 1, code := some k3c3 }
def k3c4 : Code := { maxStack := 6, maxLocals := 2, code := prog_6_method_6_code, exceptionTable := #[], attributes := #[] }
def k3m4 : Method := { name := "checkCovers", desc := "(I)V", sig := { parameters := [.int], returnType := none }, accessFlags := 1, code := some k3c4 }
/-- com/example/vestry/vestry/actuarial/MortalityTable -/
def k3 : Class := { plain "com/example/vestry/vestry/actuarial/MortalityTable" (some 0) with
  accessFlags := 33
  interfaces := #[]
  cf := some (fileOf pool3 36 #[] #[{ accessFlags := 1, nameIndex := 5, descriptorIndex := 70, attributes := #[] }, { accessFlags := 1, nameIndex := 42, descriptorIndex := 60, attributes := #[] }, { accessFlags := 1, nameIndex := 59, descriptorIndex := 60, attributes := #[] }, { accessFlags := 1, nameIndex := 77, descriptorIndex := 78, attributes := #[] }, { accessFlags := 1, nameIndex := 55, descriptorIndex := 56, attributes := #[] }] 33 2 #[] #[{ accessFlags := 18, nameIndex := 8, descriptorIndex := 39, attributes := #[] }, { accessFlags := 18, nameIndex := 42, descriptorIndex := 43, attributes := #[] }, { accessFlags := 18, nameIndex := 52, descriptorIndex := 47, attributes := #[] }])
  fields := #[{ name := "name", type := (.object "java/lang/String"), accessFlags := 18, slot := 0, constantValue := 0 }, { name := "minimumAge", type := .int, accessFlags := 18, slot := 1, constantValue := 0 }, { name := "rates", type := (.array .double), accessFlags := 18, slot := 2, constantValue := 0 }]
  methods := #[k3m0, k3m1, k3m2, k3m3, k3m4]
  instanceTypes := #[(.object "java/lang/String"), .int, (.array .double)]
  staticTypes := #[]
  resolved := Array.replicate 100 none
  statics := none }

def pool4 : Array CpInfo := pool [(1, .class_ 2), (0, u "java/io/Serializable"), (0, .class_ 4), (0, u "java/lang/Object")] 2

/-- java/io/Serializable -/
def k4 : Class := { plain "java/io/Serializable" (some 0) with
  accessFlags := 1537
  interfaces := #[]
  cf := some (fileOf pool4 1 #[] #[] 1537 3 #[] #[])
  fields := #[]
  methods := #[]
  instanceTypes := #[]
  staticTypes := #[]
  resolved := Array.replicate 7 none
  statics := none }

def pool5 : Array CpInfo := pool [(1, .class_ 2), (0, u "java/lang/Comparable"), (0, .class_ 4), (0, u "java/lang/Object")] 7

/-- java/lang/Comparable -/
def k5 : Class := { plain "java/lang/Comparable" (some 0) with
  accessFlags := 1537
  interfaces := #[]
  cf := some (fileOf pool5 1 #[] #[] 1537 3 #[] #[])
  fields := #[]
  methods := #[]
  instanceTypes := #[]
  staticTypes := #[]
  resolved := Array.replicate 12 none
  statics := none }

def pool6 : Array CpInfo := pool [(2, .class_ 4), (1, u "java/lang/CharSequence"), (42, .class_ 48), (0, u "java/lang/CharSequence$1CodePointIterator"), (10, .class_ 60), (0, u "java/lang/CharSequence$1CharIterator"), (5, .class_ 67), (0, u "java/lang/Object")] 63

/-- java/lang/CharSequence -/
def k6 : Class := { plain "java/lang/CharSequence" (some 0) with
  accessFlags := 1537
  interfaces := #[]
  cf := some (fileOf pool6 2 #[.nestMembers #[47, 59]] #[] 1537 66 #[] #[])
  fields := #[]
  methods := #[]
  instanceTypes := #[]
  staticTypes := #[]
  resolved := Array.replicate 131 none
  statics := none }

def pool7 : Array CpInfo := pool [(1, .class_ 2), (0, u "java/lang/constant/Constable"), (0, .class_ 4), (0, u "java/lang/Object")] 6

/-- java/lang/constant/Constable -/
def k7 : Class := { plain "java/lang/constant/Constable" (some 0) with
  accessFlags := 1537
  interfaces := #[]
  cf := some (fileOf pool7 1 #[] #[] 1537 3 #[] #[])
  fields := #[]
  methods := #[]
  instanceTypes := #[]
  staticTypes := #[]
  resolved := Array.replicate 11 none
  statics := none }

def pool8 : Array CpInfo := pool [(1, .class_ 2), (0, u "java/lang/constant/ConstantDesc"), (0, .class_ 4), (0, u "java/lang/Object")] 32

/-- java/lang/constant/ConstantDesc -/
def k8 : Class := { plain "java/lang/constant/ConstantDesc" (some 0) with
  accessFlags := 1537
  interfaces := #[]
  cf := some (fileOf pool8 1 #[] #[] 1537 3 #[] #[])
  fields := #[]
  methods := #[]
  instanceTypes := #[]
  staticTypes := #[]
  resolved := Array.replicate 37 none
  statics := none }

def pool9 : Array CpInfo := pool [(2, .class_ 4), (1, u "java/lang/Object"), (0, u "<init>"), (0, u "()V"), (3, .class_ 12), (1, u "java/lang/String"), (0, u "value"), (0, u "[B"), (2, u "coder"), (0, u "B"), (2, u "hash"), (0, u "I"), (2, u "hashIsZero"), (0, u "Z"), (13, u "COMPACT_STRINGS"), (534, .class_ 576), (0, u "java/lang/CharSequence"), (22, u "CASE_INSENSITIVE_ORDER"), (0, u "Ljava/util/Comparator;"), (500, u "serialPersistentFields"), (0, u "[Ljava/io/ObjectStreamField;"), (0, .class_ 1104), (0, u "java/lang/String$CaseInsensitiveComparator"), (1, .class_ 1107), (0, u "java/io/Serializable"), (0, .class_ 1109), (0, u "java/lang/Comparable"), (0, .class_ 1111), (0, u "java/lang/constant/Constable"), (0, .class_ 1113), (0, u "java/lang/constant/ConstantDesc"), (2, u "serialVersionUID"), (0, u "J"), (3, u "REPL"), (0, u "C"), (2, u "LATIN1"), (1, u "UTF16")] 323

def k9m0 : Method := { name := "<init>", desc := "()V", sig := { parameters := [], returnType := none }, accessFlags := 1, code := none }
/-- java/lang/String -/
def k9 : Class := { plain "java/lang/String" (some 0) with
  accessFlags := 49
  interfaces := #[4, 5, 6, 7, 8]
  cf := some (fileOf pool9 10 #[.nestMembers #[1103]] #[{ accessFlags := 1, nameIndex := 5, descriptorIndex := 6, attributes := #[] }] 49 2 #[1106, 1108, 575, 1110, 1112] #[{ accessFlags := 18, nameIndex := 13, descriptorIndex := 14, attributes := #[] }, { accessFlags := 18, nameIndex := 17, descriptorIndex := 18, attributes := #[] }, { accessFlags := 2, nameIndex := 21, descriptorIndex := 22, attributes := #[] }, { accessFlags := 2, nameIndex := 25, descriptorIndex := 26, attributes := #[] }, { accessFlags := 26, nameIndex := 1116, descriptorIndex := 1117, attributes := #[] }, { accessFlags := 24, nameIndex := 40, descriptorIndex := 26, attributes := #[] }, { accessFlags := 26, nameIndex := 1101, descriptorIndex := 1102, attributes := #[] }, { accessFlags := 26, nameIndex := 1121, descriptorIndex := 1122, attributes := #[] }, { accessFlags := 25, nameIndex := 599, descriptorIndex := 600, attributes := #[] }, { accessFlags := 24, nameIndex := 1125, descriptorIndex := 18, attributes := #[] }, { accessFlags := 24, nameIndex := 1127, descriptorIndex := 18, attributes := #[] }])
  fields := #[{ name := "value", type := (.array .byte), accessFlags := 18, slot := 0, constantValue := 0 }, { name := "coder", type := .byte, accessFlags := 18, slot := 1, constantValue := 0 }, { name := "hash", type := .int, accessFlags := 2, slot := 2, constantValue := 0 }, { name := "hashIsZero", type := .boolean, accessFlags := 2, slot := 3, constantValue := 0 }, { name := "serialVersionUID", type := .long, accessFlags := 26, slot := 0, constantValue := 0 }, { name := "COMPACT_STRINGS", type := .boolean, accessFlags := 24, slot := 1, constantValue := 0 }, { name := "serialPersistentFields", type := (.array (.object "java/io/ObjectStreamField")), accessFlags := 26, slot := 2, constantValue := 0 }, { name := "REPL", type := .char, accessFlags := 26, slot := 3, constantValue := 0 }, { name := "CASE_INSENSITIVE_ORDER", type := (.object "java/util/Comparator"), accessFlags := 25, slot := 4, constantValue := 0 }, { name := "LATIN1", type := .byte, accessFlags := 24, slot := 5, constantValue := 0 }, { name := "UTF16", type := .byte, accessFlags := 24, slot := 6, constantValue := 0 }]
  methods := #[k9m0]
  instanceTypes := #[(.array .byte), .byte, .int, .boolean]
  staticTypes := #[.long, .boolean, (.array (.object "java/io/ObjectStreamField")), .char, (.object "java/util/Comparator"), .byte, .byte]
  resolved := Array.replicate 1451 none
  statics := none }

def pool10 : Array CpInfo := pool [(2, .class_ 4), (1, u "java/lang/Object"), (0, u "<init>"), (0, u "()V"), (35, .class_ 44), (1, u "java/util/Objects"), (0, u "requireNonNull"), (48, u "(Ljava/lang/Object;Ljava/lang/String;)Ljava/lang/Object;")] 89

def k10m0 : Method := { name := "<init>", desc := "()V", sig := { parameters := [], returnType := none }, accessFlags := 2, code := none }
def k10c1 : Code := { maxStack := 3, maxLocals := 2, code := jdk_31_method_11_code, exceptionTable := #[], attributes := #[] }
def k10m1 : Method := { name := "requireNonNull", desc := "(Ljava/lang/Object;Ljava/lang/String;)Ljava/lang/Object;", sig := { parameters := [(.object "java/lang/Object"), (.object "java/lang/String")], returnType := some (.object "java/lang/Object") }, accessFlags := 9, code := some k10c1 }
/-- java/util/Objects -/
def k10 : Class := { plain "java/util/Objects" (some 0) with
  accessFlags := 49
  interfaces := #[]
  cf := some (fileOf pool10 42 #[] #[{ accessFlags := 2, nameIndex := 5, descriptorIndex := 6, attributes := #[] }, { accessFlags := 9, nameIndex := 45, descriptorIndex := 94, attributes := #[] }] 49 2 #[] #[])
  fields := #[]
  methods := #[k10m0, k10m1]
  instanceTypes := #[]
  staticTypes := #[]
  resolved := Array.replicate 184 none
  statics := none }

def pool11 : Array CpInfo := pool [(1, .class_ 2), (0, u "java/lang/Cloneable"), (0, .class_ 4), (0, u "java/lang/Object")] 2

/-- java/lang/Cloneable -/
def k11 : Class := { plain "java/lang/Cloneable" (some 0) with
  accessFlags := 1537
  interfaces := #[]
  cf := some (fileOf pool11 1 #[] #[] 1537 3 #[] #[])
  fields := #[]
  methods := #[]
  instanceTypes := #[]
  staticTypes := #[]
  resolved := Array.replicate 7 none
  statics := none }

/-- the primitive byte -/
def k12 : Class := { plain "byte" none with kind := .primitive 'B', accessFlags := 0x411 }
/-- [B -/
def k13 : Class := { plain "[B" (some 0) with kind := .array 12 .byte, interfaces := #[11, 4], accessFlags := 1041 }

/-- the primitive double -/
def k14 : Class := { plain "double" none with kind := .primitive 'D', accessFlags := 0x411 }
/-- [D -/
def k15 : Class := { plain "[D" (some 0) with kind := .array 14 .double, interfaces := #[11, 4], accessFlags := 1041 }

/-- the primitive int -/
def k16 : Class := { plain "int" none with kind := .primitive 'I', accessFlags := 0x411 }
/-- [I -/
def k17 : Class := { plain "[I" (some 0) with kind := .array 16 .int, interfaces := #[11, 4], accessFlags := 1041 }

def heap : Heap := #[]
def classes : Array Class := #[k0, k1, k2, k3, k4, k5, k6, k7, k8, k9, k10, k11, k12, k13, k14, k15, k16, k17]
def interned : List (Array UInt16 × Addr) := []
def slotsUsed : Nat := 0
def theMethod : MethodId := ⟨1, 1⟩
def args0 : Array Value := #[.int 5, .int 7]
def aboutOver (below : List Frame) : State where
  vm := { classes := classes, interned := interned.toArray }
  heap := heap
  slotsUsed := slotsUsed
  threads := #[{ frames := .invoking theMethod args0 :: below }]
def below0 : List Frame := [.native { method := ⟨0, 0⟩, args := #[] }]
def about1 : State := aboutOver below0
def p0 : Program := .bare "" "" ""
def e0 : Env := launch0.env 0 0 0
theorem w_frames : about1.frames = Frame.invoking theMethod args0 :: below0 := rfl
set_option maxRecDepth 65536 in
theorem w_args : argsFit about1.vm theMethod args0 = true := by decide +kernel
set_option maxRecDepth 65536 in
theorem w_heap : heapFits about1 = true := by decide +kernel
set_option maxRecDepth 65536 in
theorem w_runnable : about1.curStatus? = some .runnable := by decide +kernel
set_option maxRecDepth 65536 in
theorem w_alone : about1.alone = true := by decide +kernel
set_option maxRecDepth 65536 in
theorem w_named : about1.methodNamed? x = some theMethod := by decide +kernel
set_option maxRecDepth 65536 in
theorem w_hears : about1.hears theMethod below0 = true := by decide +kernel
set_option maxRecDepth 65536 in
theorem w_ripe : about1.ripe theMethod args0 below0 = true := by decide +kernel
theorem w_running : about1.status = .running := rfl
set_option maxRecDepth 65536 in
theorem w_room : about1.hasRoom e0.platform room_1 = true :=
  launch0.hasRoom_least _ room_1 (by decide +kernel) (by decide +kernel) (by decide +kernel) (by decide +kernel) (by decide +kernel) (by decide +kernel)
theorem allAtoms_all (ts : List Jvm.Cond) (a : Array Jvm.Value) (st : Jvm.State) : (allAtoms ts).before a st = ts.all (fun c => c.before a st) := by
  induction ts with
  | nil => rfl
  | cons c t ih =>
    show (Jvm.Cond.and c (allAtoms t)).before a st = _
    rw [Jvm.Cond.before_and, ih, List.all_cons]
def words1 : List Jvm.Cond := Jvm.Cond.code x code maxLocals ret :: tables_1
/-- a 'code' word, met by the world's own term for the bytes: nothing is compared byte by byte -/
theorem code_word {y : MethodName} {bytes : ByteArray} {mx : Nat} {rt : Option FieldType} {a : Array Value} {s : State} {m : MethodId} {meth : Method} {c : Code} (h1 : s.methodNamed? y = some m) (h2 : s.vm.method? m = some meth) (h3 : meth.code = some c) (h4 : c.code = bytes)
    (h5 : (c.maxLocals == mx && c.exceptionTable.isEmpty && decide (c.maxStack ≤ mostOperands) && decide (meth.sig.returnType = rt) && !meth.locks && decide (parseMethodDescriptor y.desc = some meth.sig)) = true) : (Jvm.Cond.code y bytes mx rt).before a s = true := by
  simp only [Bool.and_eq_true, beq_iff_eq, Bool.not_eq_true', decide_eq_true_eq] at h5
  obtain ⟨⟨⟨⟨⟨g1, g2⟩, g3⟩, g4⟩, g5⟩, g6⟩ := h5
  simp [Cond.before, Cond.holds, Cond.value, h1, h2, h3, h4, g1, g2, g3, g4, g5, g6]
def isCode : Jvm.Cond → Bool
  | .code _ _ _ _ => true
  | _ => false
theorem all_split {L : List Jvm.Cond} {P : Jvm.Cond → Bool} (h1 : L.all (fun c => isCode c || P c) = true) (h2 : ∀ c ∈ L.filter isCode, P c = true) : L.all P = true := by
  refine List.all_eq_true.mpr fun c hc => ?_
  have h := List.all_eq_true.mp h1 c hc
  rcases Bool.eq_false_or_eq_true (isCode c) with hi | hi
  · exact h2 c (List.mem_filter.mpr ⟨hc, hi⟩)
  · simpa [hi] using h
set_option maxRecDepth 65536 in
theorem w_c0 : (Jvm.Cond.code x code maxLocals ret).before args0 about1 = true := code_word (m := ⟨1, 1⟩) (meth := k1m1) (c := k1c1) (by decide +kernel) rfl rfl rfl (by decide +kernel)
set_option maxRecDepth 65536 in
theorem w_c1 : (Jvm.Cond.code ({ cls := "java/lang/Math", name := "min", desc := "(II)I" } : Jvm.MethodName) jdk_29_method_69_code (2 : Nat) (Option.some Jvm.ClassFile.FieldType.int)).before args0 about1 = true := code_word (m := ⟨2, 1⟩) (meth := k2m1) (c := k2c1) (by decide +kernel) rfl rfl rfl (by decide +kernel)
set_option maxRecDepth 65536 in
theorem w_c2 : (Jvm.Cond.code ({ cls := "com/example/vestry/vestry/actuarial/MortalityTable", name := "<init>", desc := "(Ljava/lang/String;I[D)V" } : Jvm.MethodName) prog_6_method_1_code (7 : Nat) (Option.none : Option Jvm.ClassFile.FieldType)).before args0 about1 = true := code_word (m := ⟨3, 0⟩) (meth := k3m0) (c := k3c0) (by decide +kernel) rfl rfl rfl (by decide +kernel)
set_option maxRecDepth 65536 in
theorem w_c3 : (Jvm.Cond.code ({ cls := "java/lang/Object", name := "<init>", desc := "()V" } : Jvm.MethodName) object_method_1_code (1 : Nat) (Option.none : Option Jvm.ClassFile.FieldType)).before args0 about1 = true := code_word (m := ⟨0, 0⟩) (meth := k0m0) (c := k0c0) (by decide +kernel) rfl rfl rfl (by decide +kernel)
set_option maxRecDepth 65536 in
theorem w_c4 : (Jvm.Cond.code ({ cls := "java/util/Objects", name := "requireNonNull", desc := "(Ljava/lang/Object;Ljava/lang/String;)Ljava/lang/Object;" } : Jvm.MethodName) jdk_31_method_11_code (2 : Nat) (Option.some (Jvm.ClassFile.FieldType.object "java/lang/Object"))).before args0 about1 = true := code_word (m := ⟨10, 1⟩) (meth := k10m1) (c := k10c1) (by decide +kernel) rfl rfl rfl (by decide +kernel)
set_option maxRecDepth 65536 in
theorem w_c5 : (Jvm.Cond.code ({ cls := "com/example/vestry/vestry/actuarial/MortalityTable", name := "maximumAge", desc := "()I" } : Jvm.MethodName) prog_6_method_4_code (1 : Nat) (Option.some Jvm.ClassFile.FieldType.int)).before args0 about1 = true := code_word (m := ⟨3, 2⟩) (meth := k3m2) (c := k3c2) (by decide +kernel) rfl rfl rfl (by decide +kernel)
set_option maxRecDepth 65536 in
theorem w_c6 : (Jvm.Cond.code ({ cls := "com/example/vestry/vestry/actuarial/MortalityTable", name := "minimumAge", desc := "()I" } : Jvm.MethodName) prog_6_method_3_code (1 : Nat) (Option.some Jvm.ClassFile.FieldType.int)).before args0 about1 = true := code_word (m := ⟨3, 1⟩) (meth := k3m1) (c := k3c1) (by decide +kernel) rfl rfl rfl (by decide +kernel)
set_option maxRecDepth 65536 in
theorem w_c7 : (Jvm.Cond.code ({ cls := "com/example/vestry/vestry/actuarial/MortalityTable", name := "rate", desc := "(I)D" } : Jvm.MethodName) prog_6_method_5_code (2 : Nat) (Option.some Jvm.ClassFile.FieldType.double)).before args0 about1 = true := code_word (m := ⟨3, 3⟩) (meth := k3m3) (c := k3c3) (by decide +kernel) rfl rfl rfl (by decide +kernel)
set_option maxRecDepth 65536 in
theorem w_c8 : (Jvm.Cond.code ({ cls := "com/example/vestry/vestry/actuarial/MortalityTable", name := "checkCovers", desc := "(I)V" } : Jvm.MethodName) prog_6_method_6_code (2 : Nat) (Option.none : Option Jvm.ClassFile.FieldType)).before args0 about1 = true := code_word (m := ⟨3, 4⟩) (meth := k3m4) (c := k3c4) (by decide +kernel) rfl rfl rfl (by decide +kernel)
def codes1 : List Jvm.Cond := [Jvm.Cond.code x code maxLocals ret, Jvm.Cond.code ({ cls := "java/lang/Math", name := "min", desc := "(II)I" } : Jvm.MethodName) jdk_29_method_69_code (2 : Nat) (Option.some Jvm.ClassFile.FieldType.int), Jvm.Cond.code ({ cls := "com/example/vestry/vestry/actuarial/MortalityTable", name := "<init>", desc := "(Ljava/lang/String;I[D)V" } : Jvm.MethodName) prog_6_method_1_code (7 : Nat) (Option.none : Option Jvm.ClassFile.FieldType), Jvm.Cond.code ({ cls := "java/lang/Object", name := "<init>", desc := "()V" } : Jvm.MethodName) object_method_1_code (1 : Nat) (Option.none : Option Jvm.ClassFile.FieldType), Jvm.Cond.code ({ cls := "java/util/Objects", name := "requireNonNull", desc := "(Ljava/lang/Object;Ljava/lang/String;)Ljava/lang/Object;" } : Jvm.MethodName) jdk_31_method_11_code (2 : Nat) (Option.some (Jvm.ClassFile.FieldType.object "java/lang/Object")), Jvm.Cond.code ({ cls := "com/example/vestry/vestry/actuarial/MortalityTable", name := "maximumAge", desc := "()I" } : Jvm.MethodName) prog_6_method_4_code (1 : Nat) (Option.some Jvm.ClassFile.FieldType.int), Jvm.Cond.code ({ cls := "com/example/vestry/vestry/actuarial/MortalityTable", name := "minimumAge", desc := "()I" } : Jvm.MethodName) prog_6_method_3_code (1 : Nat) (Option.some Jvm.ClassFile.FieldType.int), Jvm.Cond.code ({ cls := "com/example/vestry/vestry/actuarial/MortalityTable", name := "rate", desc := "(I)D" } : Jvm.MethodName) prog_6_method_5_code (2 : Nat) (Option.some Jvm.ClassFile.FieldType.double), Jvm.Cond.code ({ cls := "com/example/vestry/vestry/actuarial/MortalityTable", name := "checkCovers", desc := "(I)V" } : Jvm.MethodName) prog_6_method_6_code (2 : Nat) (Option.none : Option Jvm.ClassFile.FieldType)]
set_option maxRecDepth 65536 in
theorem codes_eq : words1.filter isCode = codes1 := rfl
theorem w_codes : ∀ c ∈ words1.filter isCode, c.before args0 about1 = true := by
  rw [codes_eq]
  intro c hc
  simp only [codes1, List.mem_cons, List.not_mem_nil, or_false] at hc
  rcases hc with rfl | rfl | rfl | rfl | rfl | rfl | rfl | rfl | rfl
  · exact w_c0
  · exact w_c1
  · exact w_c2
  · exact w_c3
  · exact w_c4
  · exact w_c5
  · exact w_c6
  · exact w_c7
  · exact w_c8
set_option maxRecDepth 65536 in
theorem w_t1 : (words1.take 24).all (fun c => isCode c || c.before args0 about1) = true := by decide +kernel
set_option maxRecDepth 65536 in
theorem w_t2 : ((words1.drop 24).take 24).all (fun c => isCode c || c.before args0 about1) = true := by decide +kernel
set_option maxRecDepth 65536 in
theorem w_t3 : ((words1.drop 24).drop 24).all (fun c => isCode c || c.before args0 about1) = true := by decide +kernel
theorem w_tables : (allAtoms (Jvm.Cond.code x code maxLocals ret :: tables_1)).before args0 about1 = true := by
  rw [allAtoms_all]
  show words1.all (fun c => c.before args0 about1) = true
  refine all_split ?_ w_codes
  rw [← List.take_append_drop 24 words1, List.all_append, w_t1, ← List.take_append_drop 24 (words1.drop 24), List.all_append, w_t2, w_t3]
  rfl
set_option maxRecDepth 65536 in
theorem w_case : (Jvm.Cond.and given_1 narrow_1).before args0 about1 = true := by decide +kernel
theorem w_applies : (headSpec (Jvm.Cond.code x code maxLocals ret :: tables_1) room_1).applies x e0.platform about1 = true :=
  (Spec.applies_iff w_frames).mpr ⟨w_running, w_runnable, w_alone, w_named, w_hears, w_ripe, w_room, w_tables⟩
theorem atStart : AtStart classFile x code maxLocals ret World_1 tables_1 room_1 Calls_1 rest_1 Pre_1 launch0 p0 e0 about1 theMethod args0 below0 :=
  ⟨lists_1, trivial, launch0.admits_env _ _ _, launch0.least_env, fairChoices_fair.cas, fairChoices_fair.clock, w_frames, w_args, w_heap, w_applies, trivial, trivial, w_case⟩
end start1
theorem witness_1 : WitnessClaimed_1 := ⟨start1.p0, start1.e0, start1.about1, start1.theMethod, start1.args0, start1.below0, start1.atStart⟩
end Jvm.Pilot.@@N@@
