import JvmDerived
import JvmDerived.Pilot.@@N@@Statement
import JvmDerived.Pilot.@@N@@Code
set_option linter.unusedVariables false
set_option linter.unusedSimpArgs false
namespace Jvm.Free.XS
/-- lcmp's int; iushr's int -/
def cmpL (x y : Int64) : Int32 := if x > y then 1 else if x = y then 0 else -1
def ushr (x y : Int32) : Int32 := (x.toUInt32 >>> (y &&& 31).toUInt32).toInt32
end Jvm.Free.XS
@@BLOCK:NumsL.lean.txt@@
namespace Jvm.RoadKit
open Sem ClassFile Op Lib Jvm.Stand Jvm.Free Jvm.LawKit
section Going
variable {p : Program} {l : Launch} {e : Env} {R : Room} {s : State} {m : MethodId} {args : Array Value} {below : List Frame} {meth : Method} {c : Code} {T T' : State} {locs : List Loc} {cells slots : Nat} {K N : Nat} {Q : Option Value → Heap → List Loc → Prop} {F : Option Value → State → Prop} {g g' : JFrame} {Z : State} {a0 : Array Value} {h : Heap}
/-- from this frame the run comes to the method's return, with what F says of the value and the end -/
def Go (p : Program) (e : Env) (below : List Frame) (F : Option Value → State → Prop) (T : State) (g : JFrame) : Prop :=
  ∃ s₂ o, Steps p.tables e below (T.setTop g) s₂ ∧ s₂.status = .running ∧ Ended s₂ below o ∧ ∃ v, o = .returned v ∧ F v s₂
/-- what is said of an end: Q of the value, the heap and the places written; and the frame -/
def GoEnd (s : State) (K N : Nat) (Q : Option Value → Heap → List Loc → Prop) (v : Option Value) (t : State) : Prop := ∃ L, Q v t.heap L ∧ FrameEnd s (.returned v) t L K N
theorem Go.of (q : ∀ t, Steps p.tables e below (T'.setTop g') t → Steps p.tables e below (T.setTop g) t) (k : Go p e below F T' g') : Go p e below F T g := by
  obtain ⟨s₂, o, h1, r⟩ := k; exact ⟨s₂, o, q _ h1, r⟩
theorem Go.via (q : Steps p.tables e below (T.setTop g) (T'.setTop g')) (k : Go p e below F T' g') : Go p e below F T g := Go.of (fun _ r => q.trans r) k
theorem Go.cast (q : g = g') (k : Go p e below F T g') : Go p e below F T g := q ▸ k
/-- a body's contract out of its walk -/
theorem goBody {y : MethodName} {bytes : ByteArray} {maxL : Nat} {ret : Option FieldType} {ws : List Cond} {rm : Room} {as' : Array Value} (hp : plainFor y = true)
    (body : ∀ p e s m below meth c s₁, p.tables.exec = Jvm.exec → Z.Warmed39 s.vm → c.code = bytes → c.maxLocals = maxL → s.vm.findClass y.cls = some m.cls → meth.name = y.name → meth.sig.returnType = ret → meth.locks = false →
      Stand p l e rm s m as' below meth c s₁ [] 0 0 → s₁.heap = h → Go p e below (GoEnd s rm.cells rm.slots Q) s₁ (entryFrame m as' maxL)) :
    MetFree l y (head1 (Cond.code y bytes maxL ret :: ws) rm) (fun a U => a = as' ∧ Z.Warmed39 U.vm ∧ U.heap = h) (fun _ _ _ _ _ => True) (fun _ U o U' => ∃ v L, o = .returned v ∧ Q v U'.heap L ∧ FrameEnd U o U' L rm.cells rm.slots) := by
  refine MetFree.of_bodySF hp hisR ?_
  intro p e s m args below meth c s₁ Bd hml hP hK
  obtain ⟨rfl, hZ, hh⟩ := hP
  obtain ⟨s₂, o, h1, h2, h3, v, rfl, L, h4, h5⟩ := body p e s m below meth c s₁ Bd.exec hZ Bd.bytes hml (findClass_of_methodNamed Bd.named) (name_of_methodNamed Bd.named Bd.method).1 Bd.returns Bd.notSynchronized (Stand.of_body Bd) (by rw [← hh, Bd.state]; rfl)
  exact ⟨s₂, _, h1, h2, h3, v, L, rfl, h4, h5⟩
theorem Go.retI (X : Stand p l e R s m args below meth c T locs cells slots) (hx : p.tables.exec = Jvm.exec) (hlk : meth.locks = false) {pc : Nat} {Ls : Array Slot} {z : Int32} {rest : List Value} (hret : meth.sig.returnType = some .int) (hd : decode c.code pc = .ok (.ireturn, 1)) (hK : cells ≤ K) (hN : slots ≤ N) (hq : Q (some (.int z)) T.heap locs) : Go p e below (GoEnd s K N Q) T (mkF m pc Ls (.int z :: rest)) := by
  obtain ⟨fs, hr, hrun, hended, hW, hsame⟩ := X.leave (v := some (.int z)) (fun h => by rw [hret] at h; cases h) hlk
  exact ⟨_, _, retOut X hx (t := .int) (i := .ireturn) hret rfl (Or.inl ⟨rfl, Or.inl rfl, z, rfl⟩) hd hr, hrun, hended, _, rfl, _, hq, ⟨_, rfl⟩, hW, hsame.mono hK hN⟩
theorem Go.retN (X : Stand p l e R s m args below meth c T locs cells slots) (hx : p.tables.exec = Jvm.exec) (hlk : meth.locks = false) {pc : Nat} {Ls : Array Slot} {z : Int32} {t : FieldType} {rest : List Value} (hret : meth.sig.returnType = some t) (ht : t = .boolean ∨ t = .byte ∨ t = .char ∨ t = .short) (hd : decode c.code pc = .ok (.ireturn, 1)) (hK : cells ≤ K) (hN : slots ≤ N) (hq : Q (some (.int (nar t z))) T.heap locs) : Go p e below (GoEnd s K N Q) T (mkF m pc Ls (.int z :: rest)) := by
  obtain ⟨fs, hr, hrun, hended, hW, hsame⟩ := X.leave (v := some (.int (nar t z))) (fun h => by rw [hret] at h; cases h) hlk
  exact ⟨_, _, Jvm.RoadKit.retN X hx (t := t) hret ht hd hr, hrun, hended, _, rfl, _, hq, ⟨_, rfl⟩, hW, hsame.mono hK hN⟩
theorem Go.retJ (X : Stand p l e R s m args below meth c T locs cells slots) (hx : p.tables.exec = Jvm.exec) (hlk : meth.locks = false) {pc : Nat} {Ls : Array Slot} {z : Int64} {rest : List Value} (hret : meth.sig.returnType = some .long) (hd : decode c.code pc = .ok (.lreturn, 1)) (hK : cells ≤ K) (hN : slots ≤ N) (hq : Q (some (.long z)) T.heap locs) : Go p e below (GoEnd s K N Q) T (mkF m pc Ls (.long z :: rest)) := by
  obtain ⟨fs, hr, hrun, hended, hW, hsame⟩ := X.leave (v := some (.long z)) (fun h => by rw [hret] at h; cases h) hlk
  exact ⟨_, _, retOut X hx (t := .long) (i := .lreturn) hret rfl (Or.inr (Or.inl ⟨rfl, rfl, z, rfl⟩)) hd hr, hrun, hended, _, rfl, _, hq, ⟨_, rfl⟩, hW, hsame.mono hK hN⟩
theorem Go.retD (X : Stand p l e R s m args below meth c T locs cells slots) (hx : p.tables.exec = Jvm.exec) (hlk : meth.locks = false) {pc : Nat} {Ls : Array Slot} {z : UInt64} {rest : List Value} (hret : meth.sig.returnType = some .double) (hd : decode c.code pc = .ok (.dreturn, 1)) (hK : cells ≤ K) (hN : slots ≤ N) (hq : Q (some (.double z)) T.heap locs) : Go p e below (GoEnd s K N Q) T (mkF m pc Ls (.double z :: rest)) := by
  obtain ⟨fs, hr, hrun, hended, hW, hsame⟩ := X.leave (v := some (.double z)) (fun h => by rw [hret] at h; cases h) hlk
  exact ⟨_, _, retOut X hx (t := .double) (i := .dreturn) hret rfl (Or.inr (Or.inr (Or.inl ⟨rfl, rfl, z, rfl⟩))) hd hr, hrun, hended, _, rfl, _, hq, ⟨_, rfl⟩, hW, hsame.mono hK hN⟩
theorem Go.retA (X : Stand p l e R s m args below meth c T locs cells slots) (hx : p.tables.exec = Jvm.exec) (hlk : meth.locks = false) {pc : Nat} {Ls : Array Slot} {v : Value} {t : FieldType} {rest : List Value} (hret : meth.sig.returnType = some t) (ht : t.isReference = true) (hv : v.isRef = true) (hn : narrow t v = v) (hd : decode c.code pc = .ok (.areturn, 1)) (hK : cells ≤ K) (hN : slots ≤ N) (hq : Q (some v) T.heap locs) : Go p e below (GoEnd s K N Q) T (mkF m pc Ls (v :: rest)) := by
  obtain ⟨fs, hr, hrun, hended, hW, hsame⟩ := X.leave (v := some v) (fun h => by rw [hret] at h; cases h) hlk
  exact ⟨_, _, retOut X hx (t := t) (i := .areturn) hret hn (Or.inr (Or.inr (Or.inr (Or.inr ⟨rfl, ht, hv⟩)))) hd hr, hrun, hended, _, rfl, _, hq, ⟨_, rfl⟩, hW, hsame.mono hK hN⟩
theorem Go.retV (X : Stand p l e R s m args below meth c T locs cells slots) (hx : p.tables.exec = Jvm.exec) (hlk : meth.locks = false) {pc : Nat} {Ls : Array Slot} (hret : meth.sig.returnType = none) (hd : decode c.code pc = .ok (.return_, 1)) (hK : cells ≤ K) (hN : slots ≤ N) (hq : Q none T.heap locs) : Go p e below (GoEnd s K N Q) T (mkF m pc Ls []) := by
  obtain ⟨fs, hr, hrun, hended, hW, hsame⟩ := X.leave (v := none) (fun _ => rfl) hlk
  exact ⟨_, _, X.returnOut hx hret hd hr, hrun, hended, _, rfl, _, hq, ⟨_, rfl⟩, hW, hsame.mono hK hN⟩
/-- what a callee that writes and makes nothing leaves -/
def PQ (h : Heap) (r : Option Value) (v : Option Value) (h' : Heap) (L : List Loc) : Prop := v = r ∧ L = [] ∧ h' = h
/-- a contract in the form in which a call takes it -/
abbrev MetAt (l : Launch) (Z : State) (y : MethodName) (bytes : ByteArray) (maxL : Nat) (ret : Option FieldType) (rm : Room) (as' : Array Value) (h : Heap) (Q : Option Value → Heap → List Loc → Prop) : Prop :=
  MetFree l y (head1 [Cond.code y bytes maxL ret] rm) (fun a U => a = as' ∧ Z.Warmed39 U.vm ∧ U.heap = h) (fun _ _ _ _ _ => True) (fun _ U o U' => ∃ v L, o = .returned v ∧ Q v U'.heap L ∧ FrameEnd U o U' L rm.cells rm.slots)
variable {own : String} {index : Nat} {y z : MethodName} {bytes : ByteArray} {maxL W pc : Nat} {ret : Option FieldType} {rm : Room} {Qc : Option Value → Heap → List Loc → Prop} {argsL rest st : List Value} {Ls : Array Slot}
theorem Go.callS (X : Stand p l e R s m args below meth c T locs cells slots) (hx : p.tables.exec = Jvm.exec) (hZ : Z.Warmed39 s.vm) (hown : s.vm.findClass own = some m.cls)
    (wl : (Cond.methodLink own index y).before a0 Z = true) (ws : (Cond.static y).before a0 Z = true) (wz : (Cond.initialized y.cls).before a0 Z = true) (wc : (Cond.code y bytes maxL ret).before a0 Z = true)
    (hy : y.cls ≠ "java/lang/invoke/MethodHandle" ∧ y.cls ≠ "java/lang/invoke/VarHandle") (hM : MetAt l Z y bytes maxL ret rm argsL.toArray h Qc) (eT : T.heap = h) (hsize : Ls.size = c.maxLocals)
    (hlen : ∀ sig, parseMethodDescriptor y.desc = some sig → argsL.length = sig.parameters.length) (hd : decode c.code pc = .ok (.invokestatic index, 3)) (hst : st = argsL.reverse ++ rest)
    (hW : (rest.map fun v => v.category).sum ≤ W) (hf : rm.frames + 1 ≤ R.frames) (hl : W + (maxL + 11) + rm.locals ≤ R.locals) (hc : cells + rm.cells ≤ R.cells) (hs : slots + rm.slots ≤ R.slots)
    (k : ∀ v T' L', Stand p l e R s m args below meth c T' (locs ++ L') (cells + rm.cells) (slots + rm.slots) → Qc v T'.heap L' → Go p e below F T' (mkF m (pc + 3) Ls (v.toList ++ rest))) : Go p e below F T (mkF m pc Ls st) := by
  obtain ⟨v, vm₁, ⟨T', L', k', n'⟩, -, X', ⟨Lc, hQ, l1, y1, z1⟩, stp⟩ := Jvm.LawKit.callS X hx hown (mvT hZ wl) (mvT hZ ws) (mvT hZ wz) (mvT hZ wc) hy (backOf (W := W) hM hZ wc wz hf hl) (g := mkF m pc Ls st) rfl hsize hlen hst (by show 2 * 0 + _ ≤ _; omega) hd (fun _ _ => ⟨rfl, eT, hc, hs⟩)
  dsimp only [Pt.U, Pt.locs, Pt.cells, Pt.slots] at X' l1 y1 z1 stp hQ
  subst l1 y1 z1
  exact Go.of stp (k v T' Lc X' hQ)
theorem Go.callSP (X : Stand p l e R s m args below meth c T locs cells slots) (hx : p.tables.exec = Jvm.exec) (hZ : Z.Warmed39 s.vm) (hown : s.vm.findClass own = some m.cls)
    (wl : (Cond.methodLink own index y).before a0 Z = true) (ws : (Cond.static y).before a0 Z = true) (wz : (Cond.initialized y.cls).before a0 Z = true) (wc : (Cond.code y bytes maxL ret).before a0 Z = true)
    (hy : y.cls ≠ "java/lang/invoke/MethodHandle" ∧ y.cls ≠ "java/lang/invoke/VarHandle") {r : Option Value} {fr lo : Nat} (hM : MetAt l Z y bytes maxL ret { frames := fr, cells := 0, slots := 0, locals := lo } argsL.toArray h (PQ h r)) (eT : T.heap = h) (hsize : Ls.size = c.maxLocals)
    (hlen : ∀ sig, parseMethodDescriptor y.desc = some sig → argsL.length = sig.parameters.length) (hd : decode c.code pc = .ok (.invokestatic index, 3)) (hst : st = argsL.reverse ++ rest)
    (hW : (rest.map fun v => v.category).sum ≤ W) (hf : fr + 1 ≤ R.frames) (hl : W + (maxL + 11) + lo ≤ R.locals) (hc : cells ≤ R.cells) (hs : slots ≤ R.slots)
    (k : ∀ T', Stand p l e R s m args below meth c T' locs cells slots → T'.heap = h → Go p e below F T' (mkF m (pc + 3) Ls (r.toList ++ rest))) : Go p e below F T (mkF m pc Ls st) := by
  refine Go.callS X hx hZ hown wl ws wz wc hy hM eT hsize hlen hd hst hW hf hl hc hs fun v T' L' X' q => ?_
  obtain ⟨rfl, rfl, e'⟩ := q
  rw [List.append_nil] at X'
  exact k T' X' e'
theorem Go.callI (X : Stand p l e R s m args below meth c T locs cells slots) (hx : p.tables.exec = Jvm.exec) (hZ : Z.Warmed39 s.vm) (hy1 : y.name = "<init>") (hown : s.vm.findClass own = some m.cls)
    (wl : (Cond.methodLink own index y).before a0 Z = true) (wi : (Cond.instanceMethod y).before a0 Z = true) (wz : (Cond.initialized y.cls).before a0 Z = true) (wc : (Cond.code y bytes maxL none).before a0 Z = true)
    (hy : y.cls ≠ "java/lang/invoke/MethodHandle" ∧ y.cls ≠ "java/lang/invoke/VarHandle") {a : Addr} (hM : MetAt l Z y bytes maxL none rm (.ref a :: argsL).toArray h Qc) (eT : T.heap = h) (hsize : Ls.size = c.maxLocals)
    (hlen : ∀ sig, parseMethodDescriptor y.desc = some sig → argsL.length = sig.parameters.length) (hd : decode c.code pc = .ok (.invokespecial index, 3)) (hst : st = argsL.reverse ++ .ref a :: rest)
    (hW : (rest.map fun v => v.category).sum ≤ W) (hf : rm.frames + 1 ≤ R.frames) (hl : W + (maxL + 11) + rm.locals ≤ R.locals) (hc : cells + rm.cells ≤ R.cells) (hs : slots + rm.slots ≤ R.slots)
    (k : ∀ v T' L', Stand p l e R s m args below meth c T' (locs ++ L') (cells + rm.cells) (slots + rm.slots) → Qc v T'.heap L' → Go p e below F T' (mkF m (pc + 3) Ls (v.toList ++ rest))) : Go p e below F T (mkF m pc Ls st) := by
  obtain ⟨v, vm₁, ⟨T', L', k', n'⟩, -, X', ⟨Lc, hQ, l1, y1, z1⟩, stp⟩ := X.specialBack hx hy1 hown (mvT hZ wl) (mvT hZ wi) (mvT hZ wc) hy (backOf (W := W) hM hZ wc wz hf hl) (g := mkF m pc Ls st) rfl hsize (Steps.refl _) (a := a) hlen hst (by show 2 * 0 + _ ≤ _; omega) hd (fun _ _ => ⟨rfl, eT, hc, hs⟩)
  dsimp only [Pt.U, Pt.locs, Pt.cells, Pt.slots] at X' l1 y1 z1 stp hQ
  subst l1 y1 z1
  exact Go.via stp (k v T' Lc X' hQ)
theorem Go.callV (X : Stand p l e R s m args below meth c T locs cells slots) (hx : p.tables.exec = Jvm.exec) (hZ : Z.Warmed39 s.vm) (hown : s.vm.findClass own = some m.cls) {C : String}
    (wl : (Cond.methodLink own index y).before a0 Z = true) (wd : (Cond.declares y).before a0 Z = true) (hnf : NotFace s y) (wse : (Cond.selects C y z).before a0 Z = true) (wi : (Cond.instanceMethod z).before a0 Z = true) (wz : (Cond.initialized z.cls).before a0 Z = true) (wc : (Cond.code z bytes maxL ret).before a0 Z = true)
    (hy : y.cls ≠ "java/lang/invoke/MethodHandle" ∧ y.cls ≠ "java/lang/invoke/VarHandle") {a : Addr} (hM : MetAt l Z z bytes maxL ret rm (.ref a :: argsL).toArray h Qc) (eT : T.heap = h) (hE : Exa Z h a C) (hsize : Ls.size = c.maxLocals)
    (hlen : ∀ sig, parseMethodDescriptor y.desc = some sig → argsL.length = sig.parameters.length) (hd : decode c.code pc = .ok (.invokevirtual index, 3)) (hst : st = argsL.reverse ++ .ref a :: rest)
    (hW : (rest.map fun v => v.category).sum ≤ W) (hf : rm.frames + 1 ≤ R.frames) (hl : W + (maxL + 11) + rm.locals ≤ R.locals) (hc : cells + rm.cells ≤ R.cells) (hs : slots + rm.slots ≤ R.slots)
    (k : ∀ v T' L', Stand p l e R s m args below meth c T' (locs ++ L') (cells + rm.cells) (slots + rm.slots) → Qc v T'.heap L' → Go p e below F T' (mkF m (pc + 3) Ls (v.toList ++ rest))) : Go p e below F T (mkF m pc Ls st) := by
  obtain ⟨cq, kq, q1, q2, q3⟩ := isOf hZ eT hE
  obtain ⟨v, vm₁, ⟨T', L', k', n'⟩, -, X', ⟨Lc, hQ, l1, y1, z1⟩, stp⟩ := X.virtualBack hx (y := y) (z := z) hown (mvT hZ wl) (mvT hZ wd) hnf (mvT hZ wse) (mvT hZ wi) hy (backOf (W := W) hM hZ wc wz hf hl) q1 q3 (g := mkF m pc Ls st) rfl hsize (Steps.refl _) hlen hst (by show 2 * 0 + _ ≤ _; omega) hd (fun _ _ => ⟨rfl, eT, hc, hs⟩)
  dsimp only [Pt.U, Pt.locs, Pt.cells, Pt.slots] at X' l1 y1 z1 stp hQ
  subst l1 y1 z1
  exact Go.via stp (k v T' Lc X' hQ)
theorem Go.callVP (X : Stand p l e R s m args below meth c T locs cells slots) (hx : p.tables.exec = Jvm.exec) (hZ : Z.Warmed39 s.vm) (hown : s.vm.findClass own = some m.cls) {C : String}
    (wl : (Cond.methodLink own index y).before a0 Z = true) (wd : (Cond.declares y).before a0 Z = true) (hnf : NotFace s y) (wse : (Cond.selects C y z).before a0 Z = true) (wi : (Cond.instanceMethod z).before a0 Z = true) (wz : (Cond.initialized z.cls).before a0 Z = true) (wc : (Cond.code z bytes maxL ret).before a0 Z = true)
    (hy : y.cls ≠ "java/lang/invoke/MethodHandle" ∧ y.cls ≠ "java/lang/invoke/VarHandle") {a : Addr} {r : Option Value} {fr lo : Nat} (hM : MetAt l Z z bytes maxL ret { frames := fr, cells := 0, slots := 0, locals := lo } (.ref a :: argsL).toArray h (PQ h r)) (eT : T.heap = h) (hE : Exa Z h a C) (hsize : Ls.size = c.maxLocals)
    (hlen : ∀ sig, parseMethodDescriptor y.desc = some sig → argsL.length = sig.parameters.length) (hd : decode c.code pc = .ok (.invokevirtual index, 3)) (hst : st = argsL.reverse ++ .ref a :: rest)
    (hW : (rest.map fun v => v.category).sum ≤ W) (hf : fr + 1 ≤ R.frames) (hl : W + (maxL + 11) + lo ≤ R.locals) (hc : cells ≤ R.cells) (hs : slots ≤ R.slots)
    (k : ∀ T', Stand p l e R s m args below meth c T' locs cells slots → T'.heap = h → Go p e below F T' (mkF m (pc + 3) Ls (r.toList ++ rest))) : Go p e below F T (mkF m pc Ls st) := by
  refine Go.callV X hx hZ hown wl wd hnf wse wi wz wc hy hM eT hE hsize hlen hd hst hW hf hl hc hs fun v T' L' X' q => ?_
  obtain ⟨rfl, rfl, e'⟩ := q
  rw [List.append_nil] at X'
  exact k T' X' e'
theorem Go.callIP (X : Stand p l e R s m args below meth c T locs cells slots) (hx : p.tables.exec = Jvm.exec) (hZ : Z.Warmed39 s.vm) (hy1 : y.name = "<init>") (hown : s.vm.findClass own = some m.cls)
    (wl : (Cond.methodLink own index y).before a0 Z = true) (wi : (Cond.instanceMethod y).before a0 Z = true) (wz : (Cond.initialized y.cls).before a0 Z = true) (wc : (Cond.code y bytes maxL none).before a0 Z = true)
    (hy : y.cls ≠ "java/lang/invoke/MethodHandle" ∧ y.cls ≠ "java/lang/invoke/VarHandle") {a : Addr} {fr lo : Nat} (hM : MetAt l Z y bytes maxL none { frames := fr, cells := 0, slots := 0, locals := lo } (.ref a :: argsL).toArray h (PQ h none)) (eT : T.heap = h) (hsize : Ls.size = c.maxLocals)
    (hlen : ∀ sig, parseMethodDescriptor y.desc = some sig → argsL.length = sig.parameters.length) (hd : decode c.code pc = .ok (.invokespecial index, 3)) (hst : st = argsL.reverse ++ .ref a :: rest)
    (hW : (rest.map fun v => v.category).sum ≤ W) (hf : fr + 1 ≤ R.frames) (hl : W + (maxL + 11) + lo ≤ R.locals) (hc : cells ≤ R.cells) (hs : slots ≤ R.slots)
    (k : ∀ T', Stand p l e R s m args below meth c T' locs cells slots → T'.heap = h → Go p e below F T' (mkF m (pc + 3) Ls rest)) : Go p e below F T (mkF m pc Ls st) := by
  refine Go.callI X hx hZ hy1 hown wl wi wz wc hy hM eT hsize hlen hd hst hW hf hl hc hs fun v T' L' X' q => ?_
  obtain ⟨rfl, rfl, e'⟩ := q
  rw [List.append_nil] at X'
  exact k T' X' e'
end Going
end Jvm.RoadKit
namespace Jvm.RoadKit
open Sem ClassFile Op Lib Jvm.Stand Jvm.Free Jvm.LawKit
section Heaping
variable {p : Program} {l : Launch} {e : Env} {R : Room} {s : State} {m : MethodId} {args : Array Value} {below : List Frame} {meth : Method} {c : Code} {T : State} {locs : List Loc} {cells slots : Nat} {Fi : Option Value → State → Prop} {Z : State} {a0 : Array Value} {h : Heap} {a : Addr} {k : ClassId} {ty : FieldType} {z j x : Int32} {vs rest st : List Value} {dv v : Value} {pc : Nat} {Ls : Array Slot} {own C O n d host : String} {index nn : Nat}
theorem Arv.load (F : Arv Z h a k ty z vs dv) (hj : ¬ j < 0 ∧ j < z) : ∃ cl, Arr Z h a cl ty ∧ ¬ (j < 0 ∨ cl.slots.size ≤ j.toNatClampNeg) ∧ cl.slots[j.toNatClampNeg]? = some (vs.getD j.toNatClampNeg dv) := by
  obtain ⟨cl, A, -, S, -, H, -⟩ := F
  exact ⟨cl, A, inb_of S hj, H.at (inb_of S hj) rfl⟩
theorem Go.iaload (X : Stand p l e R s m args below meth c T locs cells slots) (hx : p.tables.exec = Jvm.exec) (hZ : Z.Warmed39 s.vm) (eT : T.heap = h) (F : Arv Z h a k .int z vs dv) (hj : ¬ j < 0 ∧ j < z) (hv : vs.getD j.toNatClampNeg dv = v) (hd : decode c.code pc = .ok (.iaload, 1)) (kk : Go p e below Fi T (mkF m (pc + 1) Ls (v :: rest))) : Go p e below Fi T (mkF m pc Ls (.int j :: .ref a :: rest)) := by
  obtain ⟨cl, A, i1, i2⟩ := F.load hj
  rw [hv] at i2
  exact Go.of (fun t q => X.iaload hx (by rw [eT]; exact A.1) (State.isArrayOf_alike hZ.alike A.2.1) A.2.2 i1 i2 (g := mkF m pc Ls (.int j :: .ref a :: rest)) rfl rfl hd t q) kk
theorem Go.laload (X : Stand p l e R s m args below meth c T locs cells slots) (hx : p.tables.exec = Jvm.exec) (hZ : Z.Warmed39 s.vm) (eT : T.heap = h) (F : Arv Z h a k .long z vs dv) (hj : ¬ j < 0 ∧ j < z) (hv : vs.getD j.toNatClampNeg dv = v) (hd : decode c.code pc = .ok (.laload, 1)) (kk : Go p e below Fi T (mkF m (pc + 1) Ls (v :: rest))) : Go p e below Fi T (mkF m pc Ls (.int j :: .ref a :: rest)) := by
  obtain ⟨cl, A, i1, i2⟩ := F.load hj
  rw [hv] at i2
  exact Go.of (fun t q => X.laload hx (by rw [eT]; exact A.1) (State.isArrayOf_alike hZ.alike A.2.1) A.2.2 i1 i2 (g := mkF m pc Ls (.int j :: .ref a :: rest)) rfl rfl hd t q) kk
theorem Go.baload (X : Stand p l e R s m args below meth c T locs cells slots) (hx : p.tables.exec = Jvm.exec) (hZ : Z.Warmed39 s.vm) (eT : T.heap = h) (F : Arv Z h a k .byte z vs dv) (hj : ¬ j < 0 ∧ j < z) (hv : vs.getD j.toNatClampNeg dv = v) (hd : decode c.code pc = .ok (.baload, 1)) (kk : Go p e below Fi T (mkF m (pc + 1) Ls (v :: rest))) : Go p e below Fi T (mkF m pc Ls (.int j :: .ref a :: rest)) := by
  obtain ⟨cl, A, i1, i2⟩ := F.load hj
  rw [hv] at i2
  exact Go.of (fun t q => X.baloadBytes hx (by rw [eT]; exact A.1) (State.isArrayOf_alike hZ.alike A.2.1) A.2.2 i1 i2 (g := mkF m pc Ls (.int j :: .ref a :: rest)) rfl rfl hd t q) kk
theorem Go.caload (X : Stand p l e R s m args below meth c T locs cells slots) (hx : p.tables.exec = Jvm.exec) (hZ : Z.Warmed39 s.vm) (eT : T.heap = h) (F : Arv Z h a k .char z vs dv) (hj : ¬ j < 0 ∧ j < z) (hv : vs.getD j.toNatClampNeg dv = v) (hd : decode c.code pc = .ok (.caload, 1)) (kk : Go p e below Fi T (mkF m (pc + 1) Ls (v :: rest))) : Go p e below Fi T (mkF m pc Ls (.int j :: .ref a :: rest)) := by
  obtain ⟨cl, A, i1, i2⟩ := F.load hj
  rw [hv] at i2
  exact Go.of (fun t q => X.caload hx (by rw [eT]; exact A.1) (State.isArrayOf_alike hZ.alike A.2.1) A.2.2 i1 i2 (g := mkF m pc Ls (.int j :: .ref a :: rest)) rfl rfl hd t q) kk
theorem Go.aaload (X : Stand p l e R s m args below meth c T locs cells slots) (hx : p.tables.exec = Jvm.exec) (hZ : Z.Warmed39 s.vm) (eT : T.heap = h) (F : Arv Z h a k ty z vs dv) (hty : ty.isReference = true) (hj : ¬ j < 0 ∧ j < z) (hv : vs.getD j.toNatClampNeg dv = v) (hd : decode c.code pc = .ok (.aaload, 1)) (kk : Go p e below Fi T (mkF m (pc + 1) Ls (v :: rest))) : Go p e below Fi T (mkF m pc Ls (.int j :: .ref a :: rest)) := by
  obtain ⟨cl, A, i1, i2⟩ := F.load hj
  rw [hv] at i2
  exact Go.of (fun t q => X.aaload hx (by rw [eT]; exact A.1) (State.isArrayOf_alike hZ.alike A.2.1) hty A.2.2 i1 i2 (g := mkF m pc Ls (.int j :: .ref a :: rest)) rfl rfl hd t q) kk
theorem Go.daload (X : Stand p l e R s m args below meth c T locs cells slots) (hx : p.tables.exec = Jvm.exec) (hZ : Z.Warmed39 s.vm) (eT : T.heap = h) (F : Arv Z h a k .double z vs dv) (hj : ¬ j < 0 ∧ j < z) (hv : vs.getD j.toNatClampNeg dv = v) (hd : decode c.code pc = .ok (.daload, 1)) (kk : Go p e below Fi T (mkF m (pc + 1) Ls (v :: rest))) : Go p e below Fi T (mkF m pc Ls (.int j :: .ref a :: rest)) := by
  obtain ⟨cl, A, i1, i2⟩ := F.load hj
  rw [hv] at i2
  exact Go.of (fun t q => X.daload hx (by rw [eT]; exact A.1) (State.isArrayOf_alike hZ.alike A.2.1) A.2.2 i1 i2 (g := mkF m pc Ls (.int j :: .ref a :: rest)) rfl rfl hd t q) kk
theorem Go.dastore {x : UInt64} (X : Stand p l e R s m args below meth c T locs cells slots) (hx : p.tables.exec = Jvm.exec) (hZ : Z.Warmed39 s.vm) (eT : T.heap = h) (F : Arv Z h a k .double z vs dv) (hj : ¬ j < 0 ∧ j < z) (i : Nat) (hji : j.toNatClampNeg = i) (hi : i < vs.length) (hd : decode c.code pc = .ok (.dastore, 1))
    (kk : ∀ T' h', Stand p l e R s m args below meth c T' (locs ++ [⟨a, i⟩]) cells slots → T'.heap = h' → Wr h h' a i (.double x) → Arv Z h' a k .double z (vs.set i (.double x)) dv → Go p e below Fi T' (mkF m (pc + 1) Ls rest)) : Go p e below Fi T (mkF m pc Ls (.double x :: .int j :: .ref a :: rest)) := by
  obtain ⟨cl, A, q, S, M, H, G⟩ := F
  subst hji
  obtain ⟨T', h', X', e', W', st⟩ := stD X hx hZ eT A (inb_of S hj) (g := mkF m pc Ls (.double x :: .int j :: .ref a :: rest)) rfl rfl hd
  exact Go.of st (kk T' h' X' e' W' (Arv.set A q S M H G rfl W' _ rfl hi))
theorem Go.len (X : Stand p l e R s m args below meth c T locs cells slots) (hx : p.tables.exec = Jvm.exec) (hZ : Z.Warmed39 s.vm) (eT : T.heap = h) (F : Arv Z h a k ty z vs dv) (hd : decode c.code pc = .ok (.arraylength, 1)) (kk : Go p e below Fi T (mkF m (pc + 1) Ls (.int z :: rest))) : Go p e below Fi T (mkF m pc Ls (.ref a :: rest)) := by
  obtain ⟨cl, A, -, S, M, -, -⟩ := F
  exact Go.of (fun t q => X.arraylength hx (a := a) (cell := cl) (ty := ty) (by rw [eT]; exact A.1) (State.isArrayOf_alike hZ.alike A.2.1) (g := mkF m pc Ls (.ref a :: rest)) rfl (rest := rest) rfl hd t (by rw [len_of S M]; exact q)) kk
theorem Go.iastore (X : Stand p l e R s m args below meth c T locs cells slots) (hx : p.tables.exec = Jvm.exec) (hZ : Z.Warmed39 s.vm) (eT : T.heap = h) (F : Arv Z h a k .int z vs dv) (hj : ¬ j < 0 ∧ j < z) (i : Nat) (hji : j.toNatClampNeg = i) (hi : i < vs.length) (hd : decode c.code pc = .ok (.iastore, 1))
    (kk : ∀ T' h', Stand p l e R s m args below meth c T' (locs ++ [⟨a, i⟩]) cells slots → T'.heap = h' → Wr h h' a i (.int x) → Arv Z h' a k .int z (vs.set i (.int x)) dv → Go p e below Fi T' (mkF m (pc + 1) Ls rest)) : Go p e below Fi T (mkF m pc Ls (.int x :: .int j :: .ref a :: rest)) := by
  obtain ⟨cl, A, q, S, M, H, G⟩ := F
  subst hji
  obtain ⟨T', h', X', e', W', st⟩ := stI X hx hZ eT A (inb_of S hj) (g := mkF m pc Ls (.int x :: .int j :: .ref a :: rest)) rfl rfl hd
  exact Go.of st (kk T' h' X' e' W' (Arv.set A q S M H G rfl W' _ rfl hi))
theorem Go.lastore {x : Int64} (X : Stand p l e R s m args below meth c T locs cells slots) (hx : p.tables.exec = Jvm.exec) (hZ : Z.Warmed39 s.vm) (eT : T.heap = h) (F : Arv Z h a k .long z vs dv) (hj : ¬ j < 0 ∧ j < z) (i : Nat) (hji : j.toNatClampNeg = i) (hi : i < vs.length) (hd : decode c.code pc = .ok (.lastore, 1))
    (kk : ∀ T' h', Stand p l e R s m args below meth c T' (locs ++ [⟨a, i⟩]) cells slots → T'.heap = h' → Wr h h' a i (.long x) → Arv Z h' a k .long z (vs.set i (.long x)) dv → Go p e below Fi T' (mkF m (pc + 1) Ls rest)) : Go p e below Fi T (mkF m pc Ls (.long x :: .int j :: .ref a :: rest)) := by
  obtain ⟨cl, A, q, S, M, H, G⟩ := F
  subst hji
  obtain ⟨T', h', X', e', W', st⟩ := stJ X hx hZ eT A (inb_of S hj) (g := mkF m pc Ls (.long x :: .int j :: .ref a :: rest)) rfl rfl hd
  exact Go.of st (kk T' h' X' e' W' (Arv.set A q S M H G rfl W' _ rfl hi))
theorem Go.bastore (X : Stand p l e R s m args below meth c T locs cells slots) (hx : p.tables.exec = Jvm.exec) (hZ : Z.Warmed39 s.vm) (eT : T.heap = h) (F : Arv Z h a k .byte z vs dv) (hj : ¬ j < 0 ∧ j < z) (i : Nat) (hji : j.toNatClampNeg = i) (hi : i < vs.length) (hd : decode c.code pc = .ok (.bastore, 1))
    (kk : ∀ T' h', Stand p l e R s m args below meth c T' (locs ++ [⟨a, i⟩]) cells slots → T'.heap = h' → Wr h h' a i (.int (nar .byte x)) → Arv Z h' a k .byte z (vs.set i (.int (nar .byte x))) dv → Go p e below Fi T' (mkF m (pc + 1) Ls rest)) : Go p e below Fi T (mkF m pc Ls (.int x :: .int j :: .ref a :: rest)) := by
  obtain ⟨cl, A, q, S, M, H, G⟩ := F
  subst hji
  obtain ⟨T', h', X', e', W', st⟩ := stB X hx hZ eT A (inb_of S hj) (g := mkF m pc Ls (.int x :: .int j :: .ref a :: rest)) rfl rfl hd
  exact Go.of st (kk T' h' X' e' W' (Arv.set A q S M H G (fits_nar_byte _) W' _ rfl hi))
theorem Go.castore (X : Stand p l e R s m args below meth c T locs cells slots) (hx : p.tables.exec = Jvm.exec) (hZ : Z.Warmed39 s.vm) (eT : T.heap = h) (F : Arv Z h a k .char z vs dv) (hj : ¬ j < 0 ∧ j < z) (i : Nat) (hji : j.toNatClampNeg = i) (hi : i < vs.length) (hd : decode c.code pc = .ok (.castore, 1))
    (kk : ∀ T' h', Stand p l e R s m args below meth c T' (locs ++ [⟨a, i⟩]) cells slots → T'.heap = h' → Wr h h' a i (.int (nar .char x)) → Arv Z h' a k .char z (vs.set i (.int (nar .char x))) dv → Go p e below Fi T' (mkF m (pc + 1) Ls rest)) : Go p e below Fi T (mkF m pc Ls (.int x :: .int j :: .ref a :: rest)) := by
  obtain ⟨cl, A, q, S, M, H, G⟩ := F
  subst hji
  obtain ⟨T', h', X', e', W', st⟩ := stC X hx hZ eT A (inb_of S hj) (g := mkF m pc Ls (.int x :: .int j :: .ref a :: rest)) rfl rfl hd
  exact Go.of st (kk T' h' X' e' W' (Arv.set A q S M H G (fits_nar_char _) W' _ rfl hi))
theorem Go.newarr (X : Stand p l e R s m args below meth c T locs cells slots) (hx : p.tables.exec = Jvm.exec) (hZ : Z.Warmed39 s.vm) {aty : ArrayType} (w : (Cond.arrayClass (newarray.typeOf aty)).before a0 Z = true) (eT : T.heap = h) (cap : Nat) (hn : ¬ z < 0) (hcap : z.toNatClampNeg = cap) (hb : cap * 8 ≤ 536870912) (hc : cells + 1 ≤ R.cells) (hl : slots + cap ≤ R.slots) (hd : decode c.code pc = .ok (.newarray aty, 2))
    (kk : ∀ T' h' b k, b = h.size → Stand p l e R s m args below meth c T' locs (cells + 1) (slots + cap) → T'.heap = h' → Ext h h' → Arv Z h' b k (newarray.typeOf aty) z (List.replicate cap (defaultValue (newarray.typeOf aty))) (defaultValue (newarray.typeOf aty)) → Go p e below Fi T' (mkF m (pc + 2) Ls (.ref b :: rest))) : Go p e below Fi T (mkF m pc Ls (.int z :: rest)) := by
  obtain ⟨T', h', kA, X', e', E', A', st⟩ := newP X hx hZ w eT (g := mkF m pc Ls (.int z :: rest)) rfl hd rfl hn (cap := cap) (Nat.le_of_eq hcap) hb hc hl
  exact Go.of st (kk T' h' _ kA rfl X' e' E' ((Arv.new A' hn).pad (pad_rep [] _ cap)))
theorem Go.newarrE (X : Stand p l e R s m args below meth c T locs cells slots) (hx : p.tables.exec = Jvm.exec) (hZ : Z.Warmed39 s.vm) {aty : ArrayType} {ad : String} (had : "[" ++ (newarray.typeOf aty).toString = ad) (w : (Cond.arrayClass (newarray.typeOf aty)).before a0 Z = true) (eT : T.heap = h) (cap : Nat) (hn : ¬ z < 0) (hcap : z.toNatClampNeg = cap) (hb : cap * 8 ≤ 536870912) (hc : cells + 1 ≤ R.cells) (hl : slots + cap ≤ R.slots) (hd : decode c.code pc = .ok (.newarray aty, 2))
    (kk : ∀ T' h' b k, b = h.size → Stand p l e R s m args below meth c T' locs (cells + 1) (slots + cap) → T'.heap = h' → Ext h h' → Arv Z h' b k (newarray.typeOf aty) z (List.replicate cap (defaultValue (newarray.typeOf aty))) (defaultValue (newarray.typeOf aty)) → Exa Z h' b ad → Go p e below Fi T' (mkF m (pc + 2) Ls (.ref b :: rest))) : Go p e below Fi T (mkF m pc Ls (.int z :: rest)) := by
  obtain ⟨T', h', kA, X', e', E', A', EA, st⟩ := newPE X hx hZ w eT (g := mkF m pc Ls (.int z :: rest)) rfl hd rfl hn (cap := cap) (Nat.le_of_eq hcap) hb hc hl had
  exact Go.of st (kk T' h' _ kA rfl X' e' E' ((Arv.new A' hn).pad (pad_rep [] _ cap)) EA)
theorem Go.clone (X : Stand p l e R s m args below meth c T locs cells slots) (hx : p.tables.exec = Jvm.exec) (hZ : Z.Warmed39 s.vm) {ad : String} (hown : s.vm.findClass own = some m.cls)
    (w1 : (Cond.methodLink own index ⟨ad, "clone", "()Ljava/lang/Object;"⟩).before a0 Z = true) (w2 : (Cond.sameMethod ad "java/lang/Object" "clone" "()Ljava/lang/Object;").before a0 Z = true) (w3 : (Cond.native ⟨"java/lang/Object", "clone", "()Ljava/lang/Object;"⟩).before a0 Z = true)
    (w4 : (Cond.instanceMethod ⟨"java/lang/Object", "clone", "()Ljava/lang/Object;"⟩).before a0 Z = true) (w5 : (Cond.selects ad ⟨ad, "clone", "()Ljava/lang/Object;"⟩ ⟨"java/lang/Object", "clone", "()Ljava/lang/Object;"⟩).before a0 Z = true) (w6 : (Cond.castable ad "java/lang/Cloneable").before a0 Z = true)
    (eT : T.heap = h) (F : Arv Z h a k ty z vs dv) (E : Exa Z h a ad) (hsize : Ls.size = c.maxLocals) (hd : decode c.code pc = .ok (.invokevirtual index, 3)) (hf : 1 ≤ R.frames) {W cap : Nat} (hW : (rest.map fun v => v.category).sum ≤ W) (hl : W + 14 ≤ R.locals) (hcap : z.toNatClampNeg ≤ cap) (hc : cells + 1 ≤ R.cells) (hsl : slots + cap ≤ R.slots)
    (kk : ∀ T' h' b, b = h.size → Stand p l e R s m args below meth c T' locs (cells + 1) (slots + cap) → T'.heap = h' → Ext h h' → Arv Z h' b k ty z vs dv → Exa Z h' b ad → Go p e below Fi T' (mkF m (pc + 3) Ls (.ref b :: rest))) : Go p e below Fi T (mkF m pc Ls (.ref a :: rest)) := by
  obtain ⟨cl, A, q1, S, q3, H, G⟩ := F
  have FC : FitC Z cl := fitC_of A fun i hi v hv => by rw [H i hi] at hv; cases hv; exact G i hi
  obtain ⟨T', h', X', e', ex, A', E', st⟩ := cloneA X hx hZ hown w1 w2 w3 w4 w5 w6 eT A E FC (g := mkF m pc Ls (.ref a :: rest)) rfl hsize rfl hd hf (by show 2 * 0 + _ ≤ W; omega) hl (by rw [S]; exact hcap) hc hsl
  exact Go.of st (kk T' h' _ rfl X' e' ex ⟨cloneOf cl, A', q1, S, q3, H, G⟩ E')
theorem Go.castTo (X : Stand p l e R s m args below meth c T locs cells slots) (hx : p.tables.exec = Jvm.exec) (hZ : Z.Warmed39 s.vm) (hown : s.vm.findClass own = some m.cls) {K : String} (w : (Cond.classLink own index K).before a0 Z = true) (eT : T.heap = h) (I : Ins Z h a K true) (hd : decode c.code pc = .ok (.checkcast index, 3))
    (kk : ∀ T', Stand p l e R s m args below meth c T' locs cells slots → T'.heap = h → Go p e below Fi T' (mkF m (pc + 3) Ls (.ref a :: rest))) : Go p e below Fi T (mkF m pc Ls (.ref a :: rest)) := by
  obtain ⟨T', X', e', st⟩ := castY X hx hZ hown w eT I (g := mkF m pc Ls (.ref a :: rest)) rfl rfl hd
  exact Go.of st (kk T' X' e')
theorem Go.new (X : Stand p l e R s m args below meth c T locs cells slots) (hx : p.tables.exec = Jvm.exec) (hZ : Z.Warmed39 s.vm) (hown : s.vm.findClass own = some m.cls) (w : (Cond.classLink own index C).before a0 Z = true) (wi : (Cond.instantiable C nn).before a0 Z = true) (wz : (Cond.initialized C).before a0 Z = true) (eT : T.heap = h) (hd : decode c.code pc = .ok (.new index, 3)) (hc : cells + 1 ≤ R.cells) (hl : slots + nn ≤ R.slots)
    (kk : ∀ T' h' b, b = h.size → Stand p l e R s m args below meth c T' locs (cells + 1) (slots + nn) → T'.heap = h' → Ext h h' → Exa Z h' b C → (∀ {O nm d : String} {ty : FieldType}, Laid Z a0 C O nm d → parseFieldDescriptor d = some ty → Fld Z h' b O nm d (defaultValue ty)) → Go p e below Fi T' (mkF m (pc + 3) Ls (.ref b :: st))) : Go p e below Fi T (mkF m pc Ls st) := by
  obtain ⟨T', h', X', e', E', A', D', -, stp⟩ := newO X hx hZ hown w wi wz eT (g := mkF m pc Ls st) rfl hd hc hl
  exact Go.of stp (kk T' h' _ rfl X' e' E' A' D')
theorem Go.getf (X : Stand p l e R s m args below meth c T locs cells slots) (hx : p.tables.exec = Jvm.exec) (hZ : Z.Warmed39 s.vm) (hown : s.vm.findClass own = some m.cls) {R0 : String} (w : (Cond.fieldLink own index R0 n d).before a0 Z = true) (via : Via Z R0 O n d) (eT : T.heap = h) (F : Fld Z h a O n d v) (hd : decode c.code pc = .ok (.getfield index, 3))
    (kk : ∀ T', Stand p l e R s m args below meth c T' locs cells slots → T'.heap = h → Go p e below Fi T' (mkF m (pc + 3) Ls (v :: rest))) : Go p e below Fi T (mkF m pc Ls (.ref a :: rest)) := by
  obtain ⟨T', X', e', st⟩ := getF X hx hZ hown (host := "") (Or.inl w) via eT F (g := mkF m pc Ls (.ref a :: rest)) rfl rfl hd
  exact Go.of st (kk T' X' e')
theorem Go.gets (X : Stand p l e R s m args below meth c T locs cells slots) (hx : p.tables.exec = Jvm.exec) (hZ : Z.Warmed39 s.vm) (hown : s.vm.findClass own = some m.cls) {R0 : String} (w : (Cond.fieldLink own index R0 n d).before a0 Z = true) (via : Via Z R0 O n d) (eT : T.heap = h) (F : Sta Z h O n d v) (hd : decode c.code pc = .ok (.getstatic index, 3))
    (kk : ∀ T', Stand p l e R s m args below meth c T' locs cells slots → T'.heap = h → Go p e below Fi T' (mkF m (pc + 3) Ls (v :: st))) : Go p e below Fi T (mkF m pc Ls st) := by
  obtain ⟨T', X', e', stp⟩ := getS2 X hx hZ hown (host := "") (Or.inl w) via eT F (g := mkF m pc Ls st) rfl hd
  exact Go.of stp (kk T' X' e')
theorem Go.putf (X : Stand p l e R s m args below meth c T locs cells slots) (hx : p.tables.exec = Jvm.exec) (hZ : Z.Warmed39 s.vm) (hown : s.vm.findClass own = some m.cls) {R0 : String} (w : (Cond.fieldLink own index R0 n d).before a0 Z = true) (via : Via Z R0 O n d) (eT : T.heap = h) {old : Value} (F : Fld Z h a O n d old) (E : Exa Z h a C) (L : (Cond.lays C O n d).before a0 Z = true ∨ ((Cond.laysFinal C O n d).before a0 Z = true ∧ own = O ∧ meth.name = "<init>")) (wi : (Cond.instantiable C nn).before a0 Z = true) (hty : parseFieldDescriptor d = some ty) {v' : Value} (hn : narrow ty v = v') (hf : fits ty v' = true) (hd : decode c.code pc = .ok (.putfield index, 3))
    (kk : ∀ T' h', Stand p l e R s m args below meth c T' (locs ++ [⟨a, slotOf Z O n d⟩]) cells slots → T'.heap = h' → Wr h h' a (slotOf Z O n d) v' → Fld Z h' a O n d v' → Exa Z h' a C → Go p e below Fi T' (mkF m (pc + 3) Ls rest)) : Go p e below Fi T (mkF m pc Ls (v :: .ref a :: rest)) := by
  obtain ⟨T', h', X', e', W', st⟩ := putFN X hx hZ hown w via eT F E L wi hty hn hf (g := mkF m pc Ls (v :: .ref a :: rest)) rfl rfl hd
  exact Go.of st (kk T' h' X' e' W' (F.same W') (E.wr W'))
theorem Go.initObj (X : Stand p l e R s m args below meth c T locs cells slots) (hx : p.tables.exec = Jvm.exec) (hZ : Z.Warmed39 s.vm) (hown : s.vm.findClass own = some m.cls) (w1 : (Cond.methodLink own index Lib.objectInit).before a0 Z = true) (w2 : (Cond.instanceMethod Lib.objectInit).before a0 Z = true) (w3 : (Cond.code Lib.objectInit ⟨#[0xb1]⟩ 1 none).before a0 Z = true) (eT : T.heap = h) (hsize : Ls.size = c.maxLocals) (hd : decode c.code pc = .ok (.invokespecial index, 3)) (hf : 1 ≤ R.frames) {W : Nat} (hW : (rest.map fun v => v.category).sum ≤ W) (hl : W + 12 ≤ R.locals)
    (kk : ∀ T', Stand p l e R s m args below meth c T' locs cells slots → T'.heap = h → Go p e below Fi T' (mkF m (pc + 3) Ls rest)) : Go p e below Fi T (mkF m pc Ls (.ref a :: rest)) := by
  obtain ⟨T', X', e', st⟩ := initO X hx hZ hown w1 w2 w3 eT (g := mkF m pc Ls (.ref a :: rest)) rfl hsize rfl hd hf (W := W) (by show 2 * 0 + _ ≤ _; omega) hl
  exact Go.of st (kk T' X' e')
end Heaping
end Jvm.RoadKit
namespace Jvm.RoadKit
open Sem ClassFile Op Lib Jvm.Stand Jvm.Free Jvm.LawKit
section Gridding
variable {p : Program} {l : Launch} {e : Env} {R : Room} {s : State} {m : MethodId} {args : Array Value} {below : List Frame} {meth : Method} {c : Code} {T : State} {locs : List Loc} {cells slots : Nat} {Fi : Option Value → State → Prop} {Z : State} {a0 : Array Value} {h h' : Heap} {fa ta ra : Addr} {kf kt kr ki : ClassId} {x : Int32} {rest : List Value} {pc a b N W : Nat} {Ls : Array Slot} {f g : Nat → Int32} {G : Nat → Nat → Int32}
def own_I (n : Nat) : Int32 := Int32.ofNat n
theorem own_I_toInt {n : Nat} (h : n < 16) : (own_I n).toInt = n := Int32.toInt_ofNat_of_lt (by omega)
theorem own_I_nat {n : Nat} (h : n < 16) : (own_I n).toNatClampNeg = n := by simp only [Int32.toNatClampNeg, own_I_toInt h]; rfl
theorem own_I_lt {n k : Nat} (h : n < 16) (hk : k < 16) : own_I n < own_I k ↔ n < k := by rw [Int32.lt_iff_toInt_lt, own_I_toInt h, own_I_toInt hk]; omega
theorem own_I_eq {n k : Nat} (h : n < 16) (hk : k < 16) : own_I n = own_I k ↔ n = k := by rw [← Int32.toInt_inj, own_I_toInt h, own_I_toInt hk]; omega
theorem own_I_pos {n : Nat} (h : n < 16) : ¬ own_I n < 0 := by rw [show (0 : Int32) = own_I 0 from rfl, own_I_lt h (by omega)]; omega
theorem own_I_in {n k : Nat} (h : n < k) (hk : k < 16) : ¬ own_I n < 0 ∧ own_I n < own_I k := ⟨own_I_pos (by omega), (own_I_lt (by omega) hk).mpr h⟩
theorem own_I_up (n : Nat) : own_I n + 1 = own_I (n + 1) := by
  show Int32.ofNat n + 1 = Int32.ofNat (n + 1)
  rw [Int32.ofNat_add]; rfl
theorem own_I_add (n k : Nat) : own_I n + own_I k = own_I (n + k) := by
  show Int32.ofNat n + Int32.ofNat k = Int32.ofNat (n + k)
  rw [Int32.ofNat_add]
theorem own_I_down {n : Nat} (h : 0 < n) : own_I n - 1 = own_I (n - 1) := by
  obtain ⟨k, rfl⟩ : ∃ k, n = k + 1 := ⟨n - 1, by omega⟩
  rw [← own_I_up, Int32.add_sub_cancel]; rfl
theorem own_I_mod {n k : Nat} (h : n < 16) (hk : k < 16) : own_I n % own_I k = own_I (n % k) := by
  have h1 : n % k < 16 := Nat.lt_of_le_of_lt (Nat.mod_le _ _) h
  apply Int32.toInt_inj.mp
  rw [Int32.toInt_mod, own_I_toInt h, own_I_toInt hk, own_I_toInt h1]
  rfl
def own_row (n : Nat) (f : Nat → Int32) : List Value := (List.range n).map fun i => .int (f i)
theorem own_row_at {n i : Nat} (h : i < n) : (own_row n f).getD i (.int 0) = .int (f i) := by
  simp [own_row, List.getD_eq_getElem?_getD, h]
theorem own_row_len (n : Nat) : (own_row n f).length = n := by simp [own_row]
theorem own_row_set {n i : Nat} {v : Int32} : (own_row n f).set i (.int v) = own_row n (fun k => if k = i then v else f k) := by
  apply List.ext_getElem?
  intro k
  simp only [own_row, List.getElem?_set, List.getElem?_map, List.length_map, List.length_range]
  by_cases hk : i = k
  · subst hk
    by_cases hn : i < n <;> simp [hn]
  · rw [if_neg hk]
    by_cases hn : k < n
    · simp [hn]
      intro q; exact absurd q.symm hk
    · simp [hn]
theorem own_two {n : Nat} (h : n ≤ 2) (h0 : ¬ n = 0) (h1 : ¬ n = 1) : n = 2 := by omega
theorem own_ne1 {a b : Nat} (h : a < b) (r : Nat) : a ≠ b + 1 + r := by omega
theorem own_ne2 (a r : Nat) : a ≠ a + 1 + r := by omega
theorem own_ne3 (a : Nat) {r r' : Nat} (q : ¬ r' = r) : a + 1 + r' ≠ a + 1 + r := by omega
def own_upd (G : Nat → Nat → Int32) (r c : Nat) (v : Int32) (r' c' : Nat) : Int32 := if r' = r ∧ c' = c then v else G r' c'
/-- the two words and the table of rows, as they stand in the heap -/
def Grid (Z : State) (h : Heap) (fa ta ra : Addr) (kf kt kr ki : ClassId) (a b : Nat) (f g : Nat → Int32) (N W : Nat) (G : Nat → Nat → Int32) : Prop :=
  Arv Z h fa kf .int (own_I a) (own_row a f) (.int 0) ∧ Arv Z h ta kt .int (own_I b) (own_row b g) (.int 0) ∧ Arv Z h ra kr (.array .int) (own_I N) (((List.range N).map fun j => ra + 1 + j).map .ref) .null ∧
  (∀ r, r < N → Arv Z h (ra + 1 + r) ki .int (own_I W) (own_row W (G r)) (.int 0)) ∧ fa < ra ∧ ta < ra
theorem Grid.set (D : Grid Z h fa ta ra kf kt kr ki a b f g N W G) {r i : Nat} {v : Int32} (hr : r < N) (Wr' : Wr h h' (ra + 1 + r) i (.int v)) (V : Arv Z h' (ra + 1 + r) ki .int (own_I W) ((own_row W (G r)).set i (.int v)) (.int 0)) : Grid Z h' fa ta ra kf kt kr ki a b f g N W (own_upd G r i v) := by
  obtain ⟨d1, d2, d3, d4, d5, d6⟩ := D
  refine ⟨d1.other Wr' (own_ne1 d5 r), d2.other Wr' (own_ne1 d6 r), d3.other Wr' (own_ne2 ra r), fun r' hr' => ?_, d5, d6⟩
  by_cases q : r' = r
  · subst q
    have e : own_upd G r' i v r' = fun k => if k = i then v else G r' k := by funext k; simp [own_upd]
    rw [e, ← own_row_set]; exact V
  · have e : own_upd G r i v r' = G r' := by funext k; simp [own_upd, q]
    rw [e]; exact (d4 r' hr').other Wr' (own_ne3 ra q)
theorem Go.gload (X : Stand p l e R s m args below meth c T locs cells slots) (hx : p.tables.exec = Jvm.exec) (hZ : Z.Warmed39 s.vm) (eT : T.heap = h) {ad : Addr} {k : ClassId} {n i : Nat} {F : Nat → Int32} (V : Arv Z h ad k .int (own_I n) (own_row n F) (.int 0)) (hi : i < n) (hn : n < 16) (hd : decode c.code pc = .ok (.iaload, 1)) (kk : Go p e below Fi T (mkF m (pc + 1) Ls (.int (F i) :: rest))) : Go p e below Fi T (mkF m pc Ls (.int (own_I i) :: .ref ad :: rest)) :=
  Go.iaload X hx hZ eT V (own_I_in hi hn) (by rw [own_I_nat (by omega)]; exact own_row_at hi) hd kk
theorem Go.gstore (X : Stand p l e R s m args below meth c T locs cells slots) (hx : p.tables.exec = Jvm.exec) (hZ : Z.Warmed39 s.vm) (eT : T.heap = h) (D : Grid Z h fa ta ra kf kt kr ki a b f g N W G) {r i : Nat} (hr : r < N) (hi : i < W) (hW : W < 16) {n0 : Nat} (hn0 : n0 ≤ ra) (hF : Fr n0 locs) (hd : decode c.code pc = .ok (.iastore, 1))
    (kk : ∀ T' h' locs', Stand p l e R s m args below meth c T' locs' cells slots → T'.heap = h' → Fr n0 locs' → Grid Z h' fa ta ra kf kt kr ki a b f g N W (own_upd G r i x) → Go p e below Fi T' (mkF m (pc + 1) Ls rest)) : Go p e below Fi T (mkF m pc Ls (.int x :: .int (own_I i) :: .ref (ra + 1 + r) :: rest)) :=
  Go.iastore X hx hZ eT (D.2.2.2.1 r hr) (own_I_in hi hW) i (own_I_nat (by omega)) (by rw [own_row_len]; exact hi) hd fun T' h' X' e' W' V' => kk T' h' _ X' e' (Fr.snoc X' hF (by omega)) (D.set hr W' V')
theorem Go.grow (X : Stand p l e R s m args below meth c T locs cells slots) (hx : p.tables.exec = Jvm.exec) (hZ : Z.Warmed39 s.vm) (eT : T.heap = h) (D : Grid Z h fa ta ra kf kt kr ki a b f g N W G) {r : Nat} (hr : r < N) (hN : N < 16) (hd : decode c.code pc = .ok (.aaload, 1)) (kk : Go p e below Fi T (mkF m (pc + 1) Ls (.ref (ra + 1 + r) :: rest))) : Go p e below Fi T (mkF m pc Ls (.int (own_I r) :: .ref ra :: rest)) :=
  Go.aaload X hx hZ eT D.2.2.1 rfl (own_I_in hr hN) (by rw [own_I_nat (by omega)]; simp [List.getD_eq_getElem?_getD, hr]) hd kk
theorem Go.grid {own : String} {index : Nat} (X : Stand p l e R s m args below meth c T locs cells slots) (hx : p.tables.exec = Jvm.exec) (hZ : Z.Warmed39 s.vm) (hown : s.vm.findClass own = some m.cls) (w1 : (Cond.classLink own index "[[I").before a0 Z = true) (w2 : (Cond.arrayOver (.array .int)).before a0 Z = true) (w3 : (Cond.arrayClass .int).before a0 Z = true) (eT : T.heap = h)
    (VF : Arv Z h fa kf .int (own_I a) (own_row a f) (.int 0)) (VT : Arv Z h ta kt .int (own_I b) (own_row b g) (.int 0)) (hN : N < 16) (hW : W < 16) (hc : cells + (1 + N) ≤ R.cells) (hl : slots + (N + N * W) ≤ R.slots) (hd : decode c.code pc = .ok (.multianewarray index 2, 4))
    (kk : ∀ T' h' ra kr ki, ra = h.size → Stand p l e R s m args below meth c T' locs (cells + (1 + N)) (slots + (N + N * W)) → T'.heap = h' → Grid Z h' fa ta ra kf kt kr ki a b f g N W (fun _ _ => 0) → Go p e below Fi T' (mkF m (pc + 4) Ls (.ref ra :: rest))) : Go p e below Fi T (mkF m pc Ls (.int (own_I W) :: .int (own_I N) :: rest)) := by
  obtain ⟨T', h', cA, comp, X', e', E', V', -, -, hrows, st⟩ := gridM X hx hZ hown (C := "[I") (ty := .int) (by decide) (by decide) w1 w2 w3 eT (g := mkF m pc Ls (.int (own_I W) :: .int (own_I N) :: rest)) rfl hd rfl (own_I_pos hN) (own_I_pos hW) (own_I_nat hN) rfl (cap := W) (by rw [own_I_nat hW]; exact Nat.le_refl _) (by omega) (by omega) rfl rfl hc hl
  refine Go.of st (kk T' h' h.size cA comp rfl X' e' ⟨VF.ext E', VT.ext E', V', fun r hr => ?_, VF.lt, VT.lt⟩)
  have A := (hrows r (h.size + 1 + r) (by simp [hr])).1
  have V := (Arv.new A (own_I_pos hW)).pad (pad_rep [] _ W)
  have q : own_row W (fun _ => 0) = [] ++ List.replicate W (.int 0) := by simp [own_row, List.eq_replicate_iff]
  rw [q]; exact V
end Gridding
end Jvm.RoadKit
namespace Jvm.Pilot.@@N@@
open Jvm Jvm.ClassFile Sem Op Lib Jvm.Free Jvm.Stand Jvm.LawKit Jvm.RoadKit Bundle Jvm.Pilot.@@N@@.Jvm.D
def own_min (x y : Int32) : Int32 := if y < x then y else x
def own_max (x y : Int32) : Int32 := if x < y then y else x
def own_abs (x : Int32) : Int32 := if x < 0 then -x else x
/-- the place found, from p downwards -/
def own_lb (q : Nat → Bool) (e mx : Nat) : Nat → Nat
  | 0 => 0
  | p + 1 => if own_I (p + 1) < own_I e - own_I mx then 0 else if q p = true then p + 1 else own_lb q e mx p
def own_swap (E : Nat → Nat → Bool) (N mx : Nat) (G : Nat → Nat → Int32) (i j : Nat) : Int32 :=
  if 0 < own_lb (fun p => E p (j - 1)) i mx (i - 1) then
    if 0 < own_lb (fun p => E (i - 1) p) j mx (j - 1) then
      if own_I mx < own_abs (own_I (own_lb (fun p => E p (j - 1)) i mx (i - 1)) - own_I (own_lb (fun p => E (i - 1) p) j mx (j - 1))) then own_I mx + 1
      else G ((own_lb (fun p => E p (j - 1)) i mx (i - 1) - 1) % N) (own_lb (fun p => E (i - 1) p) j mx (j - 1) - 1) + (own_I i - own_I (own_lb (fun p => E p (j - 1)) i mx (i - 1)) - 1) + 1 + (own_I j - own_I (own_lb (fun p => E (i - 1) p) j mx (j - 1)) - 1)
    else own_I mx + 1
  else own_I mx + 1
def own_cell (E : Nat → Nat → Bool) (N mx : Nat) (G : Nat → Nat → Int32) (i j : Nat) : Int32 :=
  own_min (own_min (own_min (G ((i - 1) % N) (j - 1) + (if E (i - 1) (j - 1) = true then 0 else 1)) (own_min (G (i % N) (j - 1)) (G ((i - 1) % N) j) + 1)) (own_swap E N mx G i j)) (own_I mx + 1)
def own_inner (E : Nat → Nat → Bool) (N mx i : Nat) : Nat → Nat → (Nat → Nat → Int32) → Int32 → (Nat → Nat → Int32) × Int32
  | 0, _, G, rm => (G, rm)
  | n + 1, j, G, rm => own_inner E N mx i n (j + 1) (own_upd G (i % N) j (own_cell E N mx G i j)) (own_min rm (own_upd G (i % N) j (own_cell E N mx G i j) (i % N) j))
def own_edge (b N mx i : Nat) (G : Nat → Nat → Int32) : Nat → Nat → Int32 :=
  let G1 := own_upd G (i % N) (max 1 (i - mx) - 1) (if max 1 (i - mx) = 1 then own_min (own_I i) (own_I mx + 1) else own_I mx + 1)
  if min b (i + mx) < b then own_upd G1 (i % N) (min b (i + mx) + 1) (own_I mx + 1) else G1
def own_outer (E : Nat → Nat → Bool) (a b N mx : Nat) : Nat → Nat → (Nat → Nat → Int32) → Int32
  | 0, _, G => G (a % N) b
  | n + 1, i, G =>
    let G2 := own_edge b N mx i G
    let t := own_inner E N mx i (min b (i + mx) + 1 - max 1 (i - mx)) (max 1 (i - mx)) G2 (G2 (i % N) (max 1 (i - mx) - 1))
    if own_I mx < t.2 then own_I mx + 1 else own_outer E a b N mx n (i + 1) t.1
def own_G0 (mx t : Nat) (r c : Nat) : Int32 := if r = 0 ∧ c < t then own_min (own_I c) (own_I mx + 1) else 0
def own_dist (E : Nat → Nat → Bool) (a b mx : Nat) : Int32 :=
  if own_I mx < own_abs (own_I a - own_I b) then own_I mx + 1 else own_outer E a b (mx + 2) mx a 1 (own_G0 mx (b + 1))
theorem own_lb_le (q : Nat → Bool) (e mx : Nat) : ∀ p, own_lb q e mx p ≤ p
  | 0 => Nat.le_refl _
  | p + 1 => by
    simp only [own_lb]
    split
    · exact Nat.zero_le _
    · split
      · exact Nat.le_refl _
      · exact Nat.le_succ_of_le (own_lb_le q e mx p)
theorem own_I_dec (k : Nat) : own_I (k + 1) + (-1 : Int32) = own_I k := by
  rw [← own_I_up, Int32.add_assoc]; exact Int32.add_zero _
theorem own_pos_of {k : Nat} (h : (0 : Int32) < own_I k) (hk : k < 16) : 0 < k := (own_I_lt (n := 0) (by omega) hk).mp h
theorem own_nz {k : Nat} (h : 0 < k) (hk : k < 16) : own_I k ≠ 0 := fun q => by
  have := (own_I_eq (k := 0) hk (by omega)).mp q; omega
theorem own_I_sub {n k : Nat} (h : k ≤ n) : own_I n - own_I k = own_I (n - k) := by
  obtain ⟨d, rfl⟩ : ∃ d, n = d + k := ⟨n - k, by omega⟩
  rw [← own_I_add, Int32.add_sub_cancel, Nat.add_sub_cancel]
theorem own_first {i mx : Nat} (hi : 1 ≤ i) (h : i < 16) (hm : mx < 16) : own_max 1 (own_I i - own_I mx) = own_I (max 1 (i - mx)) := by
  rcases Nat.lt_or_ge i mx with q | q
  · have e : own_I i - own_I mx < 0 := by
      rw [Int32.lt_iff_toInt_lt, Int32.toInt_sub, own_I_toInt h, own_I_toInt hm, Int.bmod_eq_of_le (by omega) (by omega)]
      show (i : Int) - mx < 0; omega
    have e2 : ¬ (1 : Int32) < own_I i - own_I mx := by
      rw [Int32.lt_iff_toInt_lt] at e ⊢
      have : (1 : Int32).toInt = 1 := rfl
      have : (0 : Int32).toInt = 0 := rfl
      omega
    rw [own_max, if_neg e2, Nat.max_eq_left (by omega)]; rfl
  · rw [own_I_sub q, own_max, show (1 : Int32) = own_I 1 from rfl]
    by_cases c : 1 < i - mx
    · rw [if_pos ((own_I_lt (by omega) (by omega)).mpr c), Nat.max_eq_right (by omega)]
    · rw [if_neg (fun z => c ((own_I_lt (by omega) (by omega)).mp z)), Nat.max_eq_left (by omega)]
theorem own_last {b i mx : Nat} (hb : b < 16) (hi : i + mx < 16) : own_min (own_I b) (own_I i + own_I mx) = own_I (min b (i + mx)) := by
  rw [own_I_add, own_min]
  by_cases c : i + mx < b
  · rw [if_pos ((own_I_lt hi hb).mpr c), Nat.min_eq_right (by omega)]
  · rw [if_neg (fun z => c ((own_I_lt hi hb).mp z)), Nat.min_eq_left (by omega)]
theorem own_G0_0 (mx : Nat) : (fun _ _ => (0 : Int32)) = own_G0 mx 0 := by funext r c; simp [own_G0]
theorem own_G0_up (mx t : Nat) : own_upd (own_G0 mx t) 0 t (own_min (own_I t) (own_I mx + 1)) = own_G0 mx (t + 1) := by
  funext r c
  simp only [own_upd, own_G0]
  by_cases hr : r = 0
  · by_cases hc : c = t
    · subst hc; simp [hr]
    · by_cases hl : c < t
      · simp [hr, hc, hl, Nat.lt_succ_of_lt hl]
      · have : ¬ c < t + 1 := by omega
        simp [hr, hc, hl, this]
  · simp [hr]
theorem own_room {mx b : Nat} (hm : mx ≤ 7) (hb : b ≤ 3) : (mx + 2) + (mx + 2) * (b + 1) ≤ 45 := by
  have : (mx + 2) * (b + 1) ≤ 9 * 4 := Nat.mul_le_mul (by omega) (by omega)
  omega
def own_E (a b : Nat) (f g : Nat → Int32) (i j : Nat) : Bool := decide (i < a ∧ j < b ∧ f i = g j)
theorem own_E_at {a b : Nat} {f g : Nat → Int32} {i j : Nat} (hi : i < a) (hj : j < b) : own_E a b f g i j = decide (f i = g j) := by simp [own_E, hi, hj]
theorem own_E_at' {a b : Nat} {f g : Nat → Int32} {i j : Nat} (hi : i < a) (hj : j < b) : own_E a b f g i j = decide (g j = f i) := by
  rw [own_E_at hi hj]; exact decide_eq_decide.mpr eq_comm
theorem own_gapT : ∀ a : Fin 4, ∀ b : Fin 4, ∀ m : Fin 8, own_I m < own_abs (own_I a - own_I b) ∨ (a.val ≤ b.val + m.val ∧ b.val ≤ a.val + m.val) := by decide +kernel
theorem own_gap {a b m : Nat} (ha : a ≤ 3) (hb : b ≤ 3) (hm : m ≤ 7) (h : ¬ own_I m < own_abs (own_I a - own_I b)) : a ≤ b + m ∧ b ≤ a + m := by
  rcases own_gapT ⟨a, by omega⟩ ⟨b, by omega⟩ ⟨m, by omega⟩ with q | q
  · exact absurd q h
  · exact q
def own_tab (L : List (List Bool)) (i j : Nat) : Bool := (L.getD i []).getD j false
theorem own_t0 : ∀ m : Fin 8, ∀ b : Fin 3, own_dist (own_tab []) 0 b m = own_min (own_I b) (own_I m + 1) := by decide +kernel
theorem own_t1 : ∀ m : Fin 8, ∀ b : Fin 3, own_dist (own_tab []) b 0 m = own_min (own_I b) (own_I m + 1) := by decide +kernel
theorem own_t11 : ∀ m : Fin 8, ∀ p : Bool, own_dist (own_tab [[p]]) 1 1 m = own_min (if p = true then 0 else 1) (own_I m + 1) := by decide +kernel
theorem own_t12 : ∀ m : Fin 8, ∀ p q : Bool, own_dist (own_tab [[p, q]]) 1 2 m = own_min (if p = true then 1 else if q = true then 1 else 2) (own_I m + 1) := by decide +kernel
theorem own_t21 : ∀ m : Fin 8, ∀ p q : Bool, own_dist (own_tab [[p], [q]]) 2 1 m = own_min (if p = true then 1 else if q = true then 1 else 2) (own_I m + 1) := by decide +kernel
theorem own_t22 : ∀ m : Fin 8, ∀ p q r s : Bool, own_dist (own_tab [[p, q], [r, s]]) 2 2 m = own_min (if p = true then (if s = true then 0 else 1) else if s = true then 1 else if q = true then (if r = true then 1 else 2) else 2) (own_I m + 1) := by decide +kernel
theorem own_t23 : ∀ m : Fin 8, ∀ p q r : Bool, (p = true → q = r) → own_dist (own_tab [[p, q, true], [true, r, p]]) 2 3 m = own_min (if p = true then 1 else 2) (own_I m + 1) := by decide +kernel
theorem own_t32 : ∀ m : Fin 8, ∀ p q r : Bool, (p = true → q = r) → own_dist (own_tab [[p, true], [q, r], [true, p]]) 3 2 m = own_min (if p = true then 1 else 2) (own_I m + 1) := by decide +kernel
theorem own_E0 (b : Nat) (f g : Nat → Int32) : own_E 0 b f g = own_tab [] := by funext i j; simp [own_E, own_tab]
theorem own_E1 (a : Nat) (f g : Nat → Int32) : own_E a 0 f g = own_tab [] := by funext i j; simp [own_E, own_tab]
theorem own_E11 (f g : Nat → Int32) : own_E 1 1 f g = own_tab [[decide (f 0 = g 0)]] := by
  funext i j
  match i, j with
  | 0, 0 => first | (simp [own_E, own_tab]; done) | (simp [own_E, own_tab]; intros; omega)
  | 0, j + 1 => first | (simp [own_E, own_tab]; done) | (simp [own_E, own_tab]; intros; omega)
  | i + 1, j => first | (simp [own_E, own_tab]; done) | (simp [own_E, own_tab]; intros; omega)
theorem own_E12 (f g : Nat → Int32) : own_E 1 2 f g = own_tab [[decide (f 0 = g 0), decide (f 0 = g 1)]] := by
  funext i j
  match i, j with
  | 0, 0 => first | (simp [own_E, own_tab]; done) | (simp [own_E, own_tab]; intros; omega)
  | 0, 1 => first | (simp [own_E, own_tab]; done) | (simp [own_E, own_tab]; intros; omega)
  | 0, j + 2 => first | (simp [own_E, own_tab]; done) | (simp [own_E, own_tab]; intros; omega)
  | i + 1, j => first | (simp [own_E, own_tab]; done) | (simp [own_E, own_tab]; intros; omega)
theorem own_E21 (f g : Nat → Int32) : own_E 2 1 f g = own_tab [[decide (f 0 = g 0)], [decide (f 1 = g 0)]] := by
  funext i j
  match i, j with
  | 0, 0 => first | (simp [own_E, own_tab]; done) | (simp [own_E, own_tab]; intros; omega)
  | 0, j + 1 => first | (simp [own_E, own_tab]; done) | (simp [own_E, own_tab]; intros; omega)
  | 1, 0 => first | (simp [own_E, own_tab]; done) | (simp [own_E, own_tab]; intros; omega)
  | 1, j + 1 => first | (simp [own_E, own_tab]; done) | (simp [own_E, own_tab]; intros; omega)
  | i + 2, j => first | (simp [own_E, own_tab]; done) | (simp [own_E, own_tab]; intros; omega)
theorem own_E22 (f g : Nat → Int32) : own_E 2 2 f g = own_tab [[decide (f 0 = g 0), decide (f 0 = g 1)], [decide (f 1 = g 0), decide (f 1 = g 1)]] := by
  funext i j
  match i, j with
  | 0, 0 => first | (simp [own_E, own_tab]; done) | (simp [own_E, own_tab]; intros; omega)
  | 0, 1 => first | (simp [own_E, own_tab]; done) | (simp [own_E, own_tab]; intros; omega)
  | 0, j + 2 => first | (simp [own_E, own_tab]; done) | (simp [own_E, own_tab]; intros; omega)
  | 1, 0 => first | (simp [own_E, own_tab]; done) | (simp [own_E, own_tab]; intros; omega)
  | 1, 1 => first | (simp [own_E, own_tab]; done) | (simp [own_E, own_tab]; intros; omega)
  | 1, j + 2 => first | (simp [own_E, own_tab]; done) | (simp [own_E, own_tab]; intros; omega)
  | i + 2, j => first | (simp [own_E, own_tab]; done) | (simp [own_E, own_tab]; intros; omega)
theorem own_E23 (f g : Nat → Int32) : own_E 2 3 f g = own_tab [[decide (f 0 = g 0), decide (f 0 = g 1), decide (f 0 = g 2)], [decide (f 1 = g 0), decide (f 1 = g 1), decide (f 1 = g 2)]] := by
  funext i j
  match i, j with
  | 0, 0 => first | (simp [own_E, own_tab]; done) | (simp [own_E, own_tab]; intros; omega)
  | 0, 1 => first | (simp [own_E, own_tab]; done) | (simp [own_E, own_tab]; intros; omega)
  | 0, 2 => first | (simp [own_E, own_tab]; done) | (simp [own_E, own_tab]; intros; omega)
  | 0, j + 3 => first | (simp [own_E, own_tab]; done) | (simp [own_E, own_tab]; intros; omega)
  | 1, 0 => first | (simp [own_E, own_tab]; done) | (simp [own_E, own_tab]; intros; omega)
  | 1, 1 => first | (simp [own_E, own_tab]; done) | (simp [own_E, own_tab]; intros; omega)
  | 1, 2 => first | (simp [own_E, own_tab]; done) | (simp [own_E, own_tab]; intros; omega)
  | 1, j + 3 => first | (simp [own_E, own_tab]; done) | (simp [own_E, own_tab]; intros; omega)
  | i + 2, j => first | (simp [own_E, own_tab]; done) | (simp [own_E, own_tab]; intros; omega)
theorem own_E32 (f g : Nat → Int32) : own_E 3 2 f g = own_tab [[decide (f 0 = g 0), decide (f 0 = g 1)], [decide (f 1 = g 0), decide (f 1 = g 1)], [decide (f 2 = g 0), decide (f 2 = g 1)]] := by
  funext i j
  match i, j with
  | 0, 0 => first | (simp [own_E, own_tab]; done) | (simp [own_E, own_tab]; intros; omega)
  | 0, 1 => first | (simp [own_E, own_tab]; done) | (simp [own_E, own_tab]; intros; omega)
  | 0, j + 2 => first | (simp [own_E, own_tab]; done) | (simp [own_E, own_tab]; intros; omega)
  | 1, 0 => first | (simp [own_E, own_tab]; done) | (simp [own_E, own_tab]; intros; omega)
  | 1, 1 => first | (simp [own_E, own_tab]; done) | (simp [own_E, own_tab]; intros; omega)
  | 1, j + 2 => first | (simp [own_E, own_tab]; done) | (simp [own_E, own_tab]; intros; omega)
  | 2, 0 => first | (simp [own_E, own_tab]; done) | (simp [own_E, own_tab]; intros; omega)
  | 2, 1 => first | (simp [own_E, own_tab]; done) | (simp [own_E, own_tab]; intros; omega)
  | 2, j + 2 => first | (simp [own_E, own_tab]; done) | (simp [own_E, own_tab]; intros; omega)
  | i + 3, j => first | (simp [own_E, own_tab]; done) | (simp [own_E, own_tab]; intros; omega)
def own_ref94 (x1 x2 y1 y2 : Int32) : Int32 := if x1 = y1 then 1 else if x2 = y2 then 1 else if x1 = y2 then (if x2 = y1 then 1 else 2) else 2
def own_ref34 (a b x1 x2 y1 y2 : Int32) : Int32 :=
  if a = 1 then (if x1 = y1 then 1 else if x1 = y2 then 1 else 2) else if b = 1 then (if y1 = x1 then 1 else if y1 = x2 then 1 else 2) else (if x1 = y1 then (if x2 = y2 then 0 else own_ref94 x1 x2 y1 y2) else own_ref94 x1 x2 y1 y2)
def own_ref (a b x1 x2 y1 y2 : Int32) : Int32 :=
  if a = 0 then b else if b = 0 then a else if a = 1 then (if b = 1 then (if x1 = y1 then 0 else 1) else own_ref34 a b x1 x2 y1 y2) else own_ref34 a b x1 x2 y1 y2
theorem own_fin {na nb mx : Nat} (ha : na ≤ 2) (hb : nb ≤ 2) (hm : mx ≤ 7) (x1 x2 y1 y2 : Int32) : own_dist (own_E na nb (fun i => [x1, x2].getD i 0) (fun i => [y1, y2].getD i 0)) na nb mx = own_min (own_ref (own_I na) (own_I nb) x1 x2 y1 y2) (own_I mx + 1) := by
  match na, nb, ha, hb with
  | 0, b, _, hb => rw [own_E0]; exact own_t0 ⟨mx, by omega⟩ ⟨b, by omega⟩
  | a + 1, 0, ha, _ =>
    rw [own_E1]
    have e : own_ref (own_I (a + 1)) (own_I 0) x1 x2 y1 y2 = own_I (a + 1) := by
      have q : ¬ own_I (a + 1) = 0 := fun z => absurd ((own_I_eq (k := 0) (by omega) (by omega)).mp z) (by omega)
      rw [own_ref, if_neg q]; rfl
    rw [e]; exact own_t1 ⟨mx, by omega⟩ ⟨a + 1, by omega⟩
  | 1, 1, _, _ =>
    rw [own_E11]
    have e : own_ref (own_I 1) (own_I 1) x1 x2 y1 y2 = if x1 = y1 then 0 else 1 := rfl
    rw [e]; have := own_t11 ⟨mx, by omega⟩ (decide (x1 = y1)); simpa using this
  | 1, 2, _, _ =>
    rw [own_E12]
    have e : own_ref (own_I 1) (own_I 2) x1 x2 y1 y2 = if x1 = y1 then 1 else if x1 = y2 then 1 else 2 := rfl
    rw [e]; have := own_t12 ⟨mx, by omega⟩ (decide (x1 = y1)) (decide (x1 = y2)); simpa using this
  | 2, 1, _, _ =>
    rw [own_E21]
    have e : own_ref (own_I 2) (own_I 1) x1 x2 y1 y2 = if y1 = x1 then 1 else if y1 = x2 then 1 else 2 := rfl
    rw [e]; have := own_t21 ⟨mx, by omega⟩ (decide (x1 = y1)) (decide (x2 = y1)); simpa [eq_comm] using this
  | 2, 2, _, _ =>
    rw [own_E22]
    have e : own_ref (own_I 2) (own_I 2) x1 x2 y1 y2 = if x1 = y1 then (if x2 = y2 then 0 else own_ref94 x1 x2 y1 y2) else own_ref94 x1 x2 y1 y2 := rfl
    have e2 : (if x1 = y1 then (if x2 = y2 then 0 else own_ref94 x1 x2 y1 y2) else own_ref94 x1 x2 y1 y2) = if x1 = y1 then (if x2 = y2 then 0 else 1) else if x2 = y2 then 1 else if x1 = y2 then (if x2 = y1 then 1 else 2) else (2 : Int32) := by
      by_cases h1 : x1 = y1
      · simp [h1, own_ref94]
      · simp [h1, own_ref94]
    rw [e, e2]; have := own_t22 ⟨mx, by omega⟩ (decide (x1 = y1)) (decide (x1 = y2)) (decide (x2 = y1)) (decide (x2 = y2)); simpa using this
theorem own_fin23 {mx : Nat} (hm : mx ≤ 7) (x1 x2 y1 : Int32) : own_dist (own_E 2 3 (fun i => [x1, x2].getD i 0) (fun i => [x2, y1, x1].getD i 0)) 2 3 mx = own_min (if x1 = x2 then 1 else 2) (own_I mx + 1) := by
  rw [own_E23]
  have := own_t23 ⟨mx, by omega⟩ (decide (x1 = x2)) (decide (x1 = y1)) (decide (x2 = y1)) (fun z => by rw [of_decide_eq_true z])
  have c : decide (x2 = x1) = decide (x1 = x2) := decide_eq_decide.mpr eq_comm
  show own_dist (own_tab [[decide (x1 = x2), decide (x1 = y1), decide (x1 = x1)], [decide (x2 = x2), decide (x2 = y1), decide (x2 = x1)]]) 2 3 mx = _
  rw [c]; simpa using this
theorem own_fin32 {mx : Nat} (hm : mx ≤ 7) (x1 x2 y1 : Int32) : own_dist (own_E 3 2 (fun i => [x2, y1, x1].getD i 0) (fun i => [x1, x2].getD i 0)) 3 2 mx = own_min (if x1 = x2 then 1 else 2) (own_I mx + 1) := by
  rw [own_E32]
  have := own_t32 ⟨mx, by omega⟩ (decide (x1 = x2)) (decide (y1 = x1)) (decide (y1 = x2)) (fun z => by rw [of_decide_eq_true z])
  have c : decide (x2 = x1) = decide (x1 = x2) := decide_eq_decide.mpr eq_comm
  show own_dist (own_tab [[decide (x2 = x1), decide (x2 = x2)], [decide (y1 = x1), decide (y1 = x2)], [decide (x1 = x1), decide (x1 = x2)]]) 3 2 mx = _
  rw [c]; simpa using this
theorem own_mask7 (x : Int32) : ∃ n, x &&& 7 = own_I n ∧ n ≤ 7 := by
  have h := Jvm.Kit.i32_mask x 7 (k := 3) (by decide) (by decide)
  refine ⟨(x &&& 7).toInt.toNat, ?_, by omega⟩
  apply Int32.toInt_inj.mp
  rw [own_I_toInt (by omega)]; omega
theorem own_mask3 (x : Int32) : ∃ n, x &&& 3 = own_I n ∧ n ≤ 3 := by
  have h := Jvm.Kit.i32_mask x 3 (k := 2) (by decide) (by decide)
  refine ⟨(x &&& 3).toInt.toNat, ?_, by omega⟩
  apply Int32.toInt_inj.mp
  rw [own_I_toInt (by omega)]; omega
theorem own_dsc0 : parseMethodDescriptor "([IIII)I" = some ⟨[(.array .int), .int, .int, .int], some .int⟩ := by decide +kernel
theorem own_dsc1 : parseMethodDescriptor "(I)I" = some ⟨[.int], some .int⟩ := by decide +kernel
theorem own_dsc2 : parseMethodDescriptor "(II)I" = some ⟨[.int, .int], some .int⟩ := by decide +kernel
theorem own_dsc3 : parseMethodDescriptor "([I[IIII[[I)I" = some ⟨[(.array .int), (.array .int), .int, .int, .int, (.array (.array .int))], some .int⟩ := by decide +kernel
theorem own_dsc4 : parseMethodDescriptor "([I[II)I" = some ⟨[(.array .int), (.array .int), .int], some .int⟩ := by decide +kernel
theorem own_dsc5 : parseMethodDescriptor "(III)[I" = some ⟨[.int, .int, .int], some (.array .int)⟩ := by decide +kernel
theorem own_dsc6 : parseMethodDescriptor "(IIIIII)I" = some ⟨[.int, .int, .int, .int, .int, .int], some .int⟩ := by decide +kernel
theorem own_dAd0 : decode jdk_29_method_59_code 0 = .ok (.iload_n 0, 1) := by decide +kernel
theorem own_dAd1 : decode jdk_29_method_59_code 1 = .ok (.ifCond .ge 8, 3) := by decide +kernel
theorem own_dAd4 : decode jdk_29_method_59_code 4 = .ok (.iload_n 0, 1) := by decide +kernel
theorem own_dAd5 : decode jdk_29_method_59_code 5 = .ok (.ineg, 1) := by decide +kernel
theorem own_dAd6 : decode jdk_29_method_59_code 6 = .ok (.goto 4, 3) := by decide +kernel
theorem own_dAd9 : decode jdk_29_method_59_code 9 = .ok (.iload_n 0, 1) := by decide +kernel
theorem own_dAd10 : decode jdk_29_method_59_code 10 = .ok (.ireturn, 1) := by decide +kernel
set_option maxRecDepth 65536 in
set_option maxHeartbeats 40000000 in
theorem own_rmA (l : Launch) (Z : State) (a0 : Array Value) (hw : ∀ d ∈ tables_1, d.before a0 Z = true) (x : Int32) (h0 : Heap)  :
    MetFree l (⟨"java/lang/Math", "abs", "(I)I"⟩ : MethodName) (head1 [Jvm.Cond.code (⟨"java/lang/Math", "abs", "(I)I"⟩ : MethodName) jdk_29_method_59_code 1 (some .int)] ({ frames := 0, cells := 0, slots := 0, locals := 0 } : Room)) (fun aa U => aa = #[(.int x)] ∧ Z.Warmed39 U.vm ∧ U.heap = h0) (fun _ _ _ _ _ => True) (fun _ U o U' => ∃ v L, o = .returned v ∧ (PQ h0 (some (.int (own_abs x)))) v U'.heap L ∧ FrameEnd U o U' L ({ frames := 0, cells := 0, slots := 0, locals := 0 } : Room).cells ({ frames := 0, cells := 0, slots := 0, locals := 0 } : Room).slots) := by
  refine goBody (y := (⟨"java/lang/Math", "abs", "(I)I"⟩ : MethodName)) (Q := PQ h0 (some (.int (own_abs x)))) (Jvm.Free.JP.mathPlain rfl (by decide +kernel)) ?_
  intro p e s m below meth c T0 hx hZ hby hml hown hnm hret hlk X0 e0
  have hown : s.vm.findClass "java/lang/Math" = some m.cls := hown
  refine Go.cast (g' := mkF m 0 #[.val (.int x)] []) (by first | (simp [entryFrame, mkF, argsToLocals, Value.category]; done) | rfl) ?_
  show Go p e below _ T0 (mkF m 0 #[.val (.int x)] [])
  refine Go.of (fun _ kz => XS.iloadN X0.here hx rfl (hb hby own_dAd0) rfl kz) ?_
  show Go p e below _ T0 (mkF m 1 #[.val (.int x)] [(.int x)])
  by_cases hc1 : x < (0 : Int32)
  ·
    refine Go.of (fun _ kz => XS.ifNo X0.here hx rfl (hb hby own_dAd1) rfl ((if0 _ _).trans (tlt hc1).2.1) kz) ?_
    show Go p e below _ T0 (mkF m 4 #[.val (.int x)] [])
    refine Go.of (fun _ kz => XS.iloadN X0.here hx rfl (hb hby own_dAd4) rfl kz) ?_
    show Go p e below _ T0 (mkF m 5 #[.val (.int x)] [(.int x)])
    refine Go.of (fun _ kz => XS.ineg X0.here hx rfl (hb hby own_dAd5) rfl kz) ?_
    show Go p e below _ T0 (mkF m 6 #[.val (.int x)] [(.int (-x))])
    refine Go.of (fun _ kz => XS.goto X0.here hx rfl (pc0 := 6) (pc' := 10) rfl (hb hby own_dAd6) (by decide) (by decide) kz) ?_
    show Go p e below _ T0 (mkF m 10 #[.val (.int x)] [(.int (-x))])
    exact Go.retI X0 hx hlk hret (hb hby own_dAd10) (by decide) (by decide) ⟨congrArg (fun z => some (Value.int z)) (show (-x) = own_abs x by simp [own_abs, hc1]), rfl, e0⟩
  ·
    refine Go.of (fun _ kz => XS.ifYes X0.here hx rfl (pc0 := 1) (pc' := 9) rfl (hb hby own_dAd1) rfl ((if0 _ _).trans (flt hc1).2.1) (by decide) (by decide) kz) ?_
    show Go p e below _ T0 (mkF m 9 #[.val (.int x)] [])
    refine Go.of (fun _ kz => XS.iloadN X0.here hx rfl (hb hby own_dAd9) rfl kz) ?_
    show Go p e below _ T0 (mkF m 10 #[.val (.int x)] [(.int x)])
    exact Go.retI X0 hx hlk hret (hb hby own_dAd10) (by decide) (by decide) ⟨congrArg (fun z => some (Value.int z)) (show x = own_abs x by simp [own_abs, hc1]), rfl, e0⟩
theorem own_dMind0 : decode jdk_29_method_69_code 0 = .ok (.iload_n 0, 1) := by decide +kernel
theorem own_dMind1 : decode jdk_29_method_69_code 1 = .ok (.iload_n 1, 1) := by decide +kernel
theorem own_dMind2 : decode jdk_29_method_69_code 2 = .ok (.if_icmp .gt 7, 3) := by decide +kernel
theorem own_dMind5 : decode jdk_29_method_69_code 5 = .ok (.iload_n 0, 1) := by decide +kernel
theorem own_dMind6 : decode jdk_29_method_69_code 6 = .ok (.goto 4, 3) := by decide +kernel
theorem own_dMind9 : decode jdk_29_method_69_code 9 = .ok (.iload_n 1, 1) := by decide +kernel
theorem own_dMind10 : decode jdk_29_method_69_code 10 = .ok (.ireturn, 1) := by decide +kernel
set_option maxRecDepth 65536 in
set_option maxHeartbeats 40000000 in
theorem own_rmMin (l : Launch) (Z : State) (a0 : Array Value) (hw : ∀ d ∈ tables_1, d.before a0 Z = true) (x y : Int32) (h0 : Heap)  :
    MetFree l (⟨"java/lang/Math", "min", "(II)I"⟩ : MethodName) (head1 [Jvm.Cond.code (⟨"java/lang/Math", "min", "(II)I"⟩ : MethodName) jdk_29_method_69_code 2 (some .int)] ({ frames := 0, cells := 0, slots := 0, locals := 0 } : Room)) (fun aa U => aa = #[(.int x), (.int y)] ∧ Z.Warmed39 U.vm ∧ U.heap = h0) (fun _ _ _ _ _ => True) (fun _ U o U' => ∃ v L, o = .returned v ∧ (PQ h0 (some (.int (own_min x y)))) v U'.heap L ∧ FrameEnd U o U' L ({ frames := 0, cells := 0, slots := 0, locals := 0 } : Room).cells ({ frames := 0, cells := 0, slots := 0, locals := 0 } : Room).slots) := by
  refine goBody (y := (⟨"java/lang/Math", "min", "(II)I"⟩ : MethodName)) (Q := PQ h0 (some (.int (own_min x y)))) (Jvm.Free.JP.mathPlain rfl (by decide +kernel)) ?_
  intro p e s m below meth c T0 hx hZ hby hml hown hnm hret hlk X0 e0
  have hown : s.vm.findClass "java/lang/Math" = some m.cls := hown
  refine Go.cast (g' := mkF m 0 #[.val (.int x), .val (.int y)] []) (by first | (simp [entryFrame, mkF, argsToLocals, Value.category]; done) | rfl) ?_
  show Go p e below _ T0 (mkF m 0 #[.val (.int x), .val (.int y)] [])
  refine Go.of (fun _ kz => XS.iloadN X0.here hx rfl (hb hby own_dMind0) rfl kz) ?_
  show Go p e below _ T0 (mkF m 1 #[.val (.int x), .val (.int y)] [(.int x)])
  refine Go.of (fun _ kz => XS.iloadN X0.here hx rfl (hb hby own_dMind1) rfl kz) ?_
  show Go p e below _ T0 (mkF m 2 #[.val (.int x), .val (.int y)] [(.int y), (.int x)])
  by_cases hc2 : y < x
  ·
    refine Go.of (fun _ kz => XS.icmpYes X0.here hx rfl (pc0 := 2) (pc' := 9) rfl (hb hby own_dMind2) rfl (tlt hc2).2.2.1 (by decide) (by decide) kz) ?_
    show Go p e below _ T0 (mkF m 9 #[.val (.int x), .val (.int y)] [])
    refine Go.of (fun _ kz => XS.iloadN X0.here hx rfl (hb hby own_dMind9) rfl kz) ?_
    show Go p e below _ T0 (mkF m 10 #[.val (.int x), .val (.int y)] [(.int y)])
    exact Go.retI X0 hx hlk hret (hb hby own_dMind10) (by decide) (by decide) ⟨congrArg (fun z => some (Value.int z)) (show y = own_min x y by simp [own_min, hc2]), rfl, e0⟩
  ·
    refine Go.of (fun _ kz => XS.icmpNo X0.here hx rfl (hb hby own_dMind2) rfl (flt hc2).2.2.1 kz) ?_
    show Go p e below _ T0 (mkF m 5 #[.val (.int x), .val (.int y)] [])
    refine Go.of (fun _ kz => XS.iloadN X0.here hx rfl (hb hby own_dMind5) rfl kz) ?_
    show Go p e below _ T0 (mkF m 6 #[.val (.int x), .val (.int y)] [(.int x)])
    refine Go.of (fun _ kz => XS.goto X0.here hx rfl (pc0 := 6) (pc' := 10) rfl (hb hby own_dMind6) (by decide) (by decide) kz) ?_
    show Go p e below _ T0 (mkF m 10 #[.val (.int x), .val (.int y)] [(.int x)])
    exact Go.retI X0 hx hlk hret (hb hby own_dMind10) (by decide) (by decide) ⟨congrArg (fun z => some (Value.int z)) (show x = own_min x y by simp [own_min, hc2]), rfl, e0⟩
theorem own_dMaxd0 : decode jdk_29_method_65_code 0 = .ok (.iload_n 0, 1) := by decide +kernel
theorem own_dMaxd1 : decode jdk_29_method_65_code 1 = .ok (.iload_n 1, 1) := by decide +kernel
theorem own_dMaxd2 : decode jdk_29_method_65_code 2 = .ok (.if_icmp .lt 7, 3) := by decide +kernel
theorem own_dMaxd5 : decode jdk_29_method_65_code 5 = .ok (.iload_n 0, 1) := by decide +kernel
theorem own_dMaxd6 : decode jdk_29_method_65_code 6 = .ok (.goto 4, 3) := by decide +kernel
theorem own_dMaxd9 : decode jdk_29_method_65_code 9 = .ok (.iload_n 1, 1) := by decide +kernel
theorem own_dMaxd10 : decode jdk_29_method_65_code 10 = .ok (.ireturn, 1) := by decide +kernel
set_option maxRecDepth 65536 in
set_option maxHeartbeats 40000000 in
theorem own_rmMax (l : Launch) (Z : State) (a0 : Array Value) (hw : ∀ d ∈ tables_1, d.before a0 Z = true) (x y : Int32) (h0 : Heap)  :
    MetFree l (⟨"java/lang/Math", "max", "(II)I"⟩ : MethodName) (head1 [Jvm.Cond.code (⟨"java/lang/Math", "max", "(II)I"⟩ : MethodName) jdk_29_method_65_code 2 (some .int)] ({ frames := 0, cells := 0, slots := 0, locals := 0 } : Room)) (fun aa U => aa = #[(.int x), (.int y)] ∧ Z.Warmed39 U.vm ∧ U.heap = h0) (fun _ _ _ _ _ => True) (fun _ U o U' => ∃ v L, o = .returned v ∧ (PQ h0 (some (.int (own_max x y)))) v U'.heap L ∧ FrameEnd U o U' L ({ frames := 0, cells := 0, slots := 0, locals := 0 } : Room).cells ({ frames := 0, cells := 0, slots := 0, locals := 0 } : Room).slots) := by
  refine goBody (y := (⟨"java/lang/Math", "max", "(II)I"⟩ : MethodName)) (Q := PQ h0 (some (.int (own_max x y)))) (Jvm.Free.JP.mathPlain rfl (by decide +kernel)) ?_
  intro p e s m below meth c T0 hx hZ hby hml hown hnm hret hlk X0 e0
  have hown : s.vm.findClass "java/lang/Math" = some m.cls := hown
  refine Go.cast (g' := mkF m 0 #[.val (.int x), .val (.int y)] []) (by first | (simp [entryFrame, mkF, argsToLocals, Value.category]; done) | rfl) ?_
  show Go p e below _ T0 (mkF m 0 #[.val (.int x), .val (.int y)] [])
  refine Go.of (fun _ kz => XS.iloadN X0.here hx rfl (hb hby own_dMaxd0) rfl kz) ?_
  show Go p e below _ T0 (mkF m 1 #[.val (.int x), .val (.int y)] [(.int x)])
  refine Go.of (fun _ kz => XS.iloadN X0.here hx rfl (hb hby own_dMaxd1) rfl kz) ?_
  show Go p e below _ T0 (mkF m 2 #[.val (.int x), .val (.int y)] [(.int y), (.int x)])
  by_cases hc2 : x < y
  ·
    refine Go.of (fun _ kz => XS.icmpYes X0.here hx rfl (pc0 := 2) (pc' := 9) rfl (hb hby own_dMaxd2) rfl (tlt hc2).1 (by decide) (by decide) kz) ?_
    show Go p e below _ T0 (mkF m 9 #[.val (.int x), .val (.int y)] [])
    refine Go.of (fun _ kz => XS.iloadN X0.here hx rfl (hb hby own_dMaxd9) rfl kz) ?_
    show Go p e below _ T0 (mkF m 10 #[.val (.int x), .val (.int y)] [(.int y)])
    exact Go.retI X0 hx hlk hret (hb hby own_dMaxd10) (by decide) (by decide) ⟨congrArg (fun z => some (Value.int z)) (show y = own_max x y by simp [own_max, hc2]), rfl, e0⟩
  ·
    refine Go.of (fun _ kz => XS.icmpNo X0.here hx rfl (hb hby own_dMaxd2) rfl (flt hc2).1 kz) ?_
    show Go p e below _ T0 (mkF m 5 #[.val (.int x), .val (.int y)] [])
    refine Go.of (fun _ kz => XS.iloadN X0.here hx rfl (hb hby own_dMaxd5) rfl kz) ?_
    show Go p e below _ T0 (mkF m 6 #[.val (.int x), .val (.int y)] [(.int x)])
    refine Go.of (fun _ kz => XS.goto X0.here hx rfl (pc0 := 6) (pc' := 10) rfl (hb hby own_dMaxd6) (by decide) (by decide) kz) ?_
    show Go p e below _ T0 (mkF m 10 #[.val (.int x), .val (.int y)] [(.int x)])
    exact Go.retI X0 hx hlk hret (hb hby own_dMaxd10) (by decide) (by decide) ⟨congrArg (fun z => some (Value.int z)) (show x = own_max x y by simp [own_max, hc2]), rfl, e0⟩
theorem own_ld0 : decode prog_31_method_4_code 0 = .ok (.iload_n 1, 1) := by decide +kernel
theorem own_ld1 : decode prog_31_method_4_code 1 = .ok (.iconst 1, 1) := by decide +kernel
theorem own_ld2 : decode prog_31_method_4_code 2 = .ok (.isub, 1) := by decide +kernel
theorem own_ld3 : decode prog_31_method_4_code 3 = .ok (.istore 4, 2) := by decide +kernel
theorem own_ld5 : decode prog_31_method_4_code 5 = .ok (.iload 4, 2) := by decide +kernel
theorem own_ld7 : decode prog_31_method_4_code 7 = .ok (.iconst 1, 1) := by decide +kernel
theorem own_ld8 : decode prog_31_method_4_code 8 = .ok (.if_icmp .lt 30, 3) := by decide +kernel
theorem own_ld11 : decode prog_31_method_4_code 11 = .ok (.iload 4, 2) := by decide +kernel
theorem own_ld13 : decode prog_31_method_4_code 13 = .ok (.iload_n 1, 1) := by decide +kernel
theorem own_ld14 : decode prog_31_method_4_code 14 = .ok (.iload_n 3, 1) := by decide +kernel
theorem own_ld15 : decode prog_31_method_4_code 15 = .ok (.isub, 1) := by decide +kernel
theorem own_ld16 : decode prog_31_method_4_code 16 = .ok (.if_icmp .lt 22, 3) := by decide +kernel
theorem own_ld19 : decode prog_31_method_4_code 19 = .ok (.aload_n 0, 1) := by decide +kernel
theorem own_ld20 : decode prog_31_method_4_code 20 = .ok (.iload 4, 2) := by decide +kernel
theorem own_ld22 : decode prog_31_method_4_code 22 = .ok (.iconst 1, 1) := by decide +kernel
theorem own_ld23 : decode prog_31_method_4_code 23 = .ok (.isub, 1) := by decide +kernel
theorem own_ld24 : decode prog_31_method_4_code 24 = .ok (.iaload, 1) := by decide +kernel
theorem own_ld25 : decode prog_31_method_4_code 25 = .ok (.iload_n 2, 1) := by decide +kernel
theorem own_ld26 : decode prog_31_method_4_code 26 = .ok (.if_icmp .ne 6, 3) := by decide +kernel
theorem own_ld29 : decode prog_31_method_4_code 29 = .ok (.iload 4, 2) := by decide +kernel
theorem own_ld31 : decode prog_31_method_4_code 31 = .ok (.ireturn, 1) := by decide +kernel
theorem own_ld32 : decode prog_31_method_4_code 32 = .ok (.iinc 4 (-1), 3) := by decide +kernel
theorem own_ld35 : decode prog_31_method_4_code 35 = .ok (.goto (-30), 3) := by decide +kernel
theorem own_ld38 : decode prog_31_method_4_code 38 = .ok (.iconst 0, 1) := by decide +kernel
theorem own_ld39 : decode prog_31_method_4_code 39 = .ok (.ireturn, 1) := by decide +kernel
set_option maxRecDepth 65536 in
set_option maxHeartbeats 40000000 in
theorem own_rmL (l : Launch) (Z : State) (a0 : Array Value) (hw : ∀ d ∈ tables_1, d.before a0 Z = true) (wa : Addr) (k' : ClassId) (n : Nat) (F : Nat → Int32) (e' mx : Nat) (cp : Int32) (q : Nat → Bool) (h0 : Heap) (VA : Arv Z h0 wa k' .int (own_I n) (own_row n F) (.int 0)) (he : 0 < e') (hen : e' - 1 ≤ n) (he15 : e' < 16) (hn : n < 16) (hq : ∀ p, p < e' - 1 → q p = decide (F p = cp)) :
    MetFree l (⟨"com/example/keen_guess/keenguess/edit/EditDistance", "lastBefore", "([IIII)I"⟩ : MethodName) (head1 [Jvm.Cond.code (⟨"com/example/keen_guess/keenguess/edit/EditDistance", "lastBefore", "([IIII)I"⟩ : MethodName) prog_31_method_4_code 5 (some .int)] ({ frames := 0, cells := 0, slots := 0, locals := 0 } : Room)) (fun aa U => aa = #[(.ref wa), (.int (own_I e')), (.int cp), (.int (own_I mx))] ∧ Z.Warmed39 U.vm ∧ U.heap = h0) (fun _ _ _ _ _ => True) (fun _ U o U' => ∃ v L, o = .returned v ∧ (PQ h0 (some (.int (own_I (own_lb q e' mx (e' - 1)))))) v U'.heap L ∧ FrameEnd U o U' L ({ frames := 0, cells := 0, slots := 0, locals := 0 } : Room).cells ({ frames := 0, cells := 0, slots := 0, locals := 0 } : Room).slots) := by
  refine goBody (y := (⟨"com/example/keen_guess/keenguess/edit/EditDistance", "lastBefore", "([IIII)I"⟩ : MethodName)) (Q := PQ h0 (some (.int (own_I (own_lb q e' mx (e' - 1)))))) (plainFor_of_name (by first | (simp [plainName, overriddenIn]; done) | decide +kernel)) ?_
  intro p e s m below meth c T0 hx hZ hby hml hown hnm hret hlk X0 e0
  have hown : s.vm.findClass "com/example/keen_guess/keenguess/edit/EditDistance" = some m.cls := hown
  refine Go.cast (g' := mkF m 0 #[.val (.ref wa), .val (.int (own_I e')), .val (.int cp), .val (.int (own_I mx)), .unset] []) (by first | (simp [entryFrame, mkF, argsToLocals, Value.category]; done) | rfl) ?_
  have loop : ∀ k : Nat, k ≤ e' - 1 → own_lb q e' mx k = own_lb q e' mx (e' - 1) → Go p e below (GoEnd s ({ frames := 0, cells := 0, slots := 0, locals := 0 } : Room).cells ({ frames := 0, cells := 0, slots := 0, locals := 0 } : Room).slots (PQ h0 (some (.int (own_I (own_lb q e' mx (e' - 1))))))) T0 (mkF m 5 #[.val (.ref wa), .val (.int (own_I e')), .val (.int cp), .val (.int (own_I mx)), .val (.int (own_I k))] []) := by
    intro k
    induction k with
    | zero =>
      intro hk h2
      show Go p e below _ T0 (mkF m 5 #[.val (.ref wa), .val (.int (own_I e')), .val (.int cp), .val (.int (own_I mx)), .val (.int (own_I 0))] [])
      refine Go.of (fun _ kz => XS.iload X0.here hx rfl (hb hby own_ld5) rfl kz) ?_
      show Go p e below _ T0 (mkF m 7 #[.val (.ref wa), .val (.int (own_I e')), .val (.int cp), .val (.int (own_I mx)), .val (.int (own_I 0))] [(.int (own_I 0))])
      refine Go.of (fun _ kz => XS.iconst X0.here hx rfl (hb hby own_ld7) kz) ?_
      show Go p e below _ T0 (mkF m 8 #[.val (.ref wa), .val (.int (own_I e')), .val (.int cp), .val (.int (own_I mx)), .val (.int (own_I 0))] [(.int (1 : Int32)), (.int (own_I 0))])
      refine Go.of (fun _ kz => XS.icmpYes X0.here hx rfl (pc0 := 8) (pc' := 38) rfl (hb hby own_ld8) rfl (tlt (by decide : (own_I 0) < (1 : Int32))).1 (by decide) (by decide) kz) ?_
      show Go p e below _ T0 (mkF m 38 #[.val (.ref wa), .val (.int (own_I e')), .val (.int cp), .val (.int (own_I mx)), .val (.int (own_I 0))] [])
      refine Go.of (fun _ kz => XS.iconst X0.here hx rfl (hb hby own_ld38) kz) ?_
      show Go p e below _ T0 (mkF m 39 #[.val (.ref wa), .val (.int (own_I e')), .val (.int cp), .val (.int (own_I mx)), .val (.int (own_I 0))] [(.int (0 : Int32))])
      exact Go.retI X0 hx hlk hret (hb hby own_ld39) (by decide) (by decide) ⟨congrArg (fun z => some (Value.int z)) (by rw [← h2]; rfl), rfl, e0⟩
    | succ k ih =>
      intro hk h2
      simp only [own_lb] at h2
      show Go p e below _ T0 (mkF m 5 #[.val (.ref wa), .val (.int (own_I e')), .val (.int cp), .val (.int (own_I mx)), .val (.int (own_I (k + 1)))] [])
      refine Go.of (fun _ kz => XS.iload X0.here hx rfl (hb hby own_ld5) rfl kz) ?_
      show Go p e below _ T0 (mkF m 7 #[.val (.ref wa), .val (.int (own_I e')), .val (.int cp), .val (.int (own_I mx)), .val (.int (own_I (k + 1)))] [(.int (own_I (k + 1)))])
      refine Go.of (fun _ kz => XS.iconst X0.here hx rfl (hb hby own_ld7) kz) ?_
      show Go p e below _ T0 (mkF m 8 #[.val (.ref wa), .val (.int (own_I e')), .val (.int cp), .val (.int (own_I mx)), .val (.int (own_I (k + 1)))] [(.int (1 : Int32)), (.int (own_I (k + 1)))])
      refine Go.of (fun _ kz => XS.icmpNo X0.here hx rfl (hb hby own_ld8) rfl (flt (by rw [show (1 : Int32) = own_I 1 from rfl, own_I_lt (by omega) (by omega)]; omega)).1 kz) ?_
      show Go p e below _ T0 (mkF m 11 #[.val (.ref wa), .val (.int (own_I e')), .val (.int cp), .val (.int (own_I mx)), .val (.int (own_I (k + 1)))] [])
      refine Go.of (fun _ kz => XS.iload X0.here hx rfl (hb hby own_ld11) rfl kz) ?_
      show Go p e below _ T0 (mkF m 13 #[.val (.ref wa), .val (.int (own_I e')), .val (.int cp), .val (.int (own_I mx)), .val (.int (own_I (k + 1)))] [(.int (own_I (k + 1)))])
      refine Go.of (fun _ kz => XS.iloadN X0.here hx rfl (hb hby own_ld13) rfl kz) ?_
      show Go p e below _ T0 (mkF m 14 #[.val (.ref wa), .val (.int (own_I e')), .val (.int cp), .val (.int (own_I mx)), .val (.int (own_I (k + 1)))] [(.int (own_I e')), (.int (own_I (k + 1)))])
      refine Go.of (fun _ kz => XS.iloadN X0.here hx rfl (hb hby own_ld14) rfl kz) ?_
      show Go p e below _ T0 (mkF m 15 #[.val (.ref wa), .val (.int (own_I e')), .val (.int cp), .val (.int (own_I mx)), .val (.int (own_I (k + 1)))] [(.int (own_I mx)), (.int (own_I e')), (.int (own_I (k + 1)))])
      refine Go.of (fun _ kz => XS.isub X0.here hx rfl (hb hby own_ld15) rfl kz) ?_
      show Go p e below _ T0 (mkF m 16 #[.val (.ref wa), .val (.int (own_I e')), .val (.int cp), .val (.int (own_I mx)), .val (.int (own_I (k + 1)))] [(.int ((own_I e') - (own_I mx))), (.int (own_I (k + 1)))])
      by_cases hc16 : (own_I (k + 1)) < ((own_I e') - (own_I mx))
      ·
        refine Go.of (fun _ kz => XS.icmpYes X0.here hx rfl (pc0 := 16) (pc' := 38) rfl (hb hby own_ld16) rfl (tlt hc16).1 (by decide) (by decide) kz) ?_
        show Go p e below _ T0 (mkF m 38 #[.val (.ref wa), .val (.int (own_I e')), .val (.int cp), .val (.int (own_I mx)), .val (.int (own_I (k + 1)))] [])
        refine Go.of (fun _ kz => XS.iconst X0.here hx rfl (hb hby own_ld38) kz) ?_
        show Go p e below _ T0 (mkF m 39 #[.val (.ref wa), .val (.int (own_I e')), .val (.int cp), .val (.int (own_I mx)), .val (.int (own_I (k + 1)))] [(.int (0 : Int32))])
        exact Go.retI X0 hx hlk hret (hb hby own_ld39) (by decide) (by decide) ⟨congrArg (fun z => some (Value.int z)) (by rw [if_pos hc16] at h2; rw [← h2]; rfl), rfl, e0⟩
      ·
        refine Go.of (fun _ kz => XS.icmpNo X0.here hx rfl (hb hby own_ld16) rfl (flt hc16).1 kz) ?_
        show Go p e below _ T0 (mkF m 19 #[.val (.ref wa), .val (.int (own_I e')), .val (.int cp), .val (.int (own_I mx)), .val (.int (own_I (k + 1)))] [])
        refine Go.of (fun _ kz => XS.aloadN X0.here hx rfl (hb hby own_ld19) rfl rfl kz) ?_
        show Go p e below _ T0 (mkF m 20 #[.val (.ref wa), .val (.int (own_I e')), .val (.int cp), .val (.int (own_I mx)), .val (.int (own_I (k + 1)))] [(.ref wa)])
        refine Go.of (fun _ kz => XS.iload X0.here hx rfl (hb hby own_ld20) rfl kz) ?_
        show Go p e below _ T0 (mkF m 22 #[.val (.ref wa), .val (.int (own_I e')), .val (.int cp), .val (.int (own_I mx)), .val (.int (own_I (k + 1)))] [(.int (own_I (k + 1))), (.ref wa)])
        refine Go.of (fun _ kz => XS.iconst X0.here hx rfl (hb hby own_ld22) kz) ?_
        show Go p e below _ T0 (mkF m 23 #[.val (.ref wa), .val (.int (own_I e')), .val (.int cp), .val (.int (own_I mx)), .val (.int (own_I (k + 1)))] [(.int (1 : Int32)), (.int (own_I (k + 1))), (.ref wa)])
        refine Go.of (fun _ kz => XS.isub X0.here hx rfl (hb hby own_ld23) rfl kz) ?_
        show Go p e below _ T0 (mkF m 24 #[.val (.ref wa), .val (.int (own_I e')), .val (.int cp), .val (.int (own_I mx)), .val (.int (own_I (k + 1)))] [(.int ((own_I (k + 1)) - (1 : Int32))), (.ref wa)])
        rw [own_I_down (Nat.succ_pos k)]
        show Go p e below _ T0 (mkF m 24 #[.val (.ref wa), .val (.int (own_I e')), .val (.int cp), .val (.int (own_I mx)), .val (.int (own_I (k + 1)))] [(.int (own_I k)), (.ref wa)])
        refine Go.gload X0 hx hZ e0 VA (i := k) (by omega) hn (hb hby own_ld24) ?_
        show Go p e below _ T0 (mkF m 25 #[.val (.ref wa), .val (.int (own_I e')), .val (.int cp), .val (.int (own_I mx)), .val (.int (own_I (k + 1)))] [(.int (F k))])
        refine Go.of (fun _ kz => XS.iloadN X0.here hx rfl (hb hby own_ld25) rfl kz) ?_
        show Go p e below _ T0 (mkF m 26 #[.val (.ref wa), .val (.int (own_I e')), .val (.int cp), .val (.int (own_I mx)), .val (.int (own_I (k + 1)))] [(.int cp), (.int (F k))])
        by_cases hc26 : (F k) = cp
        ·
          refine Go.of (fun _ kz => XS.icmpNo X0.here hx rfl (hb hby own_ld26) rfl (teq hc26).2 kz) ?_
          show Go p e below _ T0 (mkF m 29 #[.val (.ref wa), .val (.int (own_I e')), .val (.int cp), .val (.int (own_I mx)), .val (.int (own_I (k + 1)))] [])
          refine Go.of (fun _ kz => XS.iload X0.here hx rfl (hb hby own_ld29) rfl kz) ?_
          show Go p e below _ T0 (mkF m 31 #[.val (.ref wa), .val (.int (own_I e')), .val (.int cp), .val (.int (own_I mx)), .val (.int (own_I (k + 1)))] [(.int (own_I (k + 1)))])
          exact Go.retI X0 hx hlk hret (hb hby own_ld31) (by decide) (by decide) ⟨congrArg (fun z => some (Value.int z)) (by rw [if_neg hc16, if_pos (by rw [hq k (by omega)]; exact decide_eq_true hc26)] at h2; rw [← h2]), rfl, e0⟩
        ·
          refine Go.of (fun _ kz => XS.icmpYes X0.here hx rfl (pc0 := 26) (pc' := 32) rfl (hb hby own_ld26) rfl (feq hc26).2 (by decide) (by decide) kz) ?_
          show Go p e below _ T0 (mkF m 32 #[.val (.ref wa), .val (.int (own_I e')), .val (.int cp), .val (.int (own_I mx)), .val (.int (own_I (k + 1)))] [])
          refine Go.of (fun _ kz => XS.iinc X0.here hx rfl (hb hby own_ld32) rfl (l' := #[.val (.ref wa), .val (.int (own_I e')), .val (.int cp), .val (.int (own_I mx)), .val (.int ((own_I (k + 1)) + (-1 : Int32)))]) rfl kz) ?_
          show Go p e below _ T0 (mkF m 35 #[.val (.ref wa), .val (.int (own_I e')), .val (.int cp), .val (.int (own_I mx)), .val (.int ((own_I (k + 1)) + (-1 : Int32)))] [])
          rw [own_I_dec]
          show Go p e below _ T0 (mkF m 35 #[.val (.ref wa), .val (.int (own_I e')), .val (.int cp), .val (.int (own_I mx)), .val (.int (own_I k))] [])
          refine Go.of (fun _ kz => XS.goto X0.here hx rfl (pc0 := 35) (pc' := 5) rfl (hb hby own_ld35) (by decide) (by decide) kz) ?_
          show Go p e below _ T0 (mkF m 5 #[.val (.ref wa), .val (.int (own_I e')), .val (.int cp), .val (.int (own_I mx)), .val (.int (own_I k))] [])
          exact ih (by omega) (by rw [if_neg hc16, if_neg (by rw [hq k (by omega)]; exact fun z => hc26 (of_decide_eq_true z))] at h2; exact h2)
  show Go p e below _ T0 (mkF m 0 #[.val (.ref wa), .val (.int (own_I e')), .val (.int cp), .val (.int (own_I mx)), .unset] [])
  refine Go.of (fun _ kz => XS.iloadN X0.here hx rfl (hb hby own_ld0) rfl kz) ?_
  show Go p e below _ T0 (mkF m 1 #[.val (.ref wa), .val (.int (own_I e')), .val (.int cp), .val (.int (own_I mx)), .unset] [(.int (own_I e'))])
  refine Go.of (fun _ kz => XS.iconst X0.here hx rfl (hb hby own_ld1) kz) ?_
  show Go p e below _ T0 (mkF m 2 #[.val (.ref wa), .val (.int (own_I e')), .val (.int cp), .val (.int (own_I mx)), .unset] [(.int (1 : Int32)), (.int (own_I e'))])
  refine Go.of (fun _ kz => XS.isub X0.here hx rfl (hb hby own_ld2) rfl kz) ?_
  show Go p e below _ T0 (mkF m 3 #[.val (.ref wa), .val (.int (own_I e')), .val (.int cp), .val (.int (own_I mx)), .unset] [(.int ((own_I e') - (1 : Int32)))])
  rw [own_I_down he]
  show Go p e below _ T0 (mkF m 3 #[.val (.ref wa), .val (.int (own_I e')), .val (.int cp), .val (.int (own_I mx)), .unset] [(.int (own_I (e' - 1)))])
  refine Go.of (fun _ kz => XS.istore X0.here hx rfl (hb hby own_ld3) rfl (l' := #[.val (.ref wa), .val (.int (own_I e')), .val (.int cp), .val (.int (own_I mx)), .val (.int (own_I (e' - 1)))]) rfl kz) ?_
  show Go p e below _ T0 (mkF m 5 #[.val (.ref wa), .val (.int (own_I e')), .val (.int cp), .val (.int (own_I mx)), .val (.int (own_I (e' - 1)))] [])
  exact loop (e' - 1) (Nat.le_refl _) rfl
theorem own_sd0 : decode prog_31_method_3_code 0 = .ok (.aload_n 0, 1) := by decide +kernel
theorem own_sd1 : decode prog_31_method_3_code 1 = .ok (.iload_n 2, 1) := by decide +kernel
theorem own_sd2 : decode prog_31_method_3_code 2 = .ok (.aload_n 1, 1) := by decide +kernel
theorem own_sd3 : decode prog_31_method_3_code 3 = .ok (.iload_n 3, 1) := by decide +kernel
theorem own_sd4 : decode prog_31_method_3_code 4 = .ok (.iconst 1, 1) := by decide +kernel
theorem own_sd5 : decode prog_31_method_3_code 5 = .ok (.isub, 1) := by decide +kernel
theorem own_sd6 : decode prog_31_method_3_code 6 = .ok (.iaload, 1) := by decide +kernel
theorem own_sd7 : decode prog_31_method_3_code 7 = .ok (.iload 4, 2) := by decide +kernel
theorem own_sd9 : decode prog_31_method_3_code 9 = .ok (.invokestatic 37, 3) := by decide +kernel
theorem own_sd12 : decode prog_31_method_3_code 12 = .ok (.istore 6, 2) := by decide +kernel
theorem own_sd14 : decode prog_31_method_3_code 14 = .ok (.aload_n 1, 1) := by decide +kernel
theorem own_sd15 : decode prog_31_method_3_code 15 = .ok (.iload_n 3, 1) := by decide +kernel
theorem own_sd16 : decode prog_31_method_3_code 16 = .ok (.aload_n 0, 1) := by decide +kernel
theorem own_sd17 : decode prog_31_method_3_code 17 = .ok (.iload_n 2, 1) := by decide +kernel
theorem own_sd18 : decode prog_31_method_3_code 18 = .ok (.iconst 1, 1) := by decide +kernel
theorem own_sd19 : decode prog_31_method_3_code 19 = .ok (.isub, 1) := by decide +kernel
theorem own_sd20 : decode prog_31_method_3_code 20 = .ok (.iaload, 1) := by decide +kernel
theorem own_sd21 : decode prog_31_method_3_code 21 = .ok (.iload 4, 2) := by decide +kernel
theorem own_sd23 : decode prog_31_method_3_code 23 = .ok (.invokestatic 37, 3) := by decide +kernel
theorem own_sd26 : decode prog_31_method_3_code 26 = .ok (.istore 7, 2) := by decide +kernel
theorem own_sd28 : decode prog_31_method_3_code 28 = .ok (.iload 4, 2) := by decide +kernel
theorem own_sd30 : decode prog_31_method_3_code 30 = .ok (.iconst 1, 1) := by decide +kernel
theorem own_sd31 : decode prog_31_method_3_code 31 = .ok (.iadd, 1) := by decide +kernel
theorem own_sd32 : decode prog_31_method_3_code 32 = .ok (.istore 8, 2) := by decide +kernel
theorem own_sd34 : decode prog_31_method_3_code 34 = .ok (.iload 6, 2) := by decide +kernel
theorem own_sd36 : decode prog_31_method_3_code 36 = .ok (.ifCond .le 55, 3) := by decide +kernel
theorem own_sd39 : decode prog_31_method_3_code 39 = .ok (.iload 7, 2) := by decide +kernel
theorem own_sd41 : decode prog_31_method_3_code 41 = .ok (.ifCond .le 50, 3) := by decide +kernel
theorem own_sd44 : decode prog_31_method_3_code 44 = .ok (.iload 6, 2) := by decide +kernel
theorem own_sd46 : decode prog_31_method_3_code 46 = .ok (.iload 7, 2) := by decide +kernel
theorem own_sd48 : decode prog_31_method_3_code 48 = .ok (.isub, 1) := by decide +kernel
theorem own_sd49 : decode prog_31_method_3_code 49 = .ok (.invokestatic 16, 3) := by decide +kernel
theorem own_sd52 : decode prog_31_method_3_code 52 = .ok (.iload 4, 2) := by decide +kernel
theorem own_sd54 : decode prog_31_method_3_code 54 = .ok (.if_icmp .gt 37, 3) := by decide +kernel
theorem own_sd57 : decode prog_31_method_3_code 57 = .ok (.aload 5, 2) := by decide +kernel
theorem own_sd59 : decode prog_31_method_3_code 59 = .ok (.iload 6, 2) := by decide +kernel
theorem own_sd61 : decode prog_31_method_3_code 61 = .ok (.iconst 1, 1) := by decide +kernel
theorem own_sd62 : decode prog_31_method_3_code 62 = .ok (.isub, 1) := by decide +kernel
theorem own_sd63 : decode prog_31_method_3_code 63 = .ok (.aload 5, 2) := by decide +kernel
theorem own_sd65 : decode prog_31_method_3_code 65 = .ok (.arraylength, 1) := by decide +kernel
theorem own_sd66 : decode prog_31_method_3_code 66 = .ok (.irem, 1) := by decide +kernel
theorem own_sd67 : decode prog_31_method_3_code 67 = .ok (.aaload, 1) := by decide +kernel
theorem own_sd68 : decode prog_31_method_3_code 68 = .ok (.iload 7, 2) := by decide +kernel
theorem own_sd70 : decode prog_31_method_3_code 70 = .ok (.iconst 1, 1) := by decide +kernel
theorem own_sd71 : decode prog_31_method_3_code 71 = .ok (.isub, 1) := by decide +kernel
theorem own_sd72 : decode prog_31_method_3_code 72 = .ok (.iaload, 1) := by decide +kernel
theorem own_sd73 : decode prog_31_method_3_code 73 = .ok (.iload_n 2, 1) := by decide +kernel
theorem own_sd74 : decode prog_31_method_3_code 74 = .ok (.iload 6, 2) := by decide +kernel
theorem own_sd76 : decode prog_31_method_3_code 76 = .ok (.isub, 1) := by decide +kernel
theorem own_sd77 : decode prog_31_method_3_code 77 = .ok (.iconst 1, 1) := by decide +kernel
theorem own_sd78 : decode prog_31_method_3_code 78 = .ok (.isub, 1) := by decide +kernel
theorem own_sd79 : decode prog_31_method_3_code 79 = .ok (.iadd, 1) := by decide +kernel
theorem own_sd80 : decode prog_31_method_3_code 80 = .ok (.iconst 1, 1) := by decide +kernel
theorem own_sd81 : decode prog_31_method_3_code 81 = .ok (.iadd, 1) := by decide +kernel
theorem own_sd82 : decode prog_31_method_3_code 82 = .ok (.iload_n 3, 1) := by decide +kernel
theorem own_sd83 : decode prog_31_method_3_code 83 = .ok (.iload 7, 2) := by decide +kernel
theorem own_sd85 : decode prog_31_method_3_code 85 = .ok (.isub, 1) := by decide +kernel
theorem own_sd86 : decode prog_31_method_3_code 86 = .ok (.iconst 1, 1) := by decide +kernel
theorem own_sd87 : decode prog_31_method_3_code 87 = .ok (.isub, 1) := by decide +kernel
theorem own_sd88 : decode prog_31_method_3_code 88 = .ok (.iadd, 1) := by decide +kernel
theorem own_sd89 : decode prog_31_method_3_code 89 = .ok (.istore 8, 2) := by decide +kernel
theorem own_sd91 : decode prog_31_method_3_code 91 = .ok (.iload 8, 2) := by decide +kernel
theorem own_sd93 : decode prog_31_method_3_code 93 = .ok (.ireturn, 1) := by decide +kernel
set_option maxRecDepth 65536 in
set_option maxHeartbeats 40000000 in
theorem own_rmS (l : Launch) (Z : State) (a0 : Array Value) (hw : ∀ d ∈ tables_1, d.before a0 Z = true) (fa ta ra : Addr) (kf kt kr ki : ClassId) (a b : Nat) (f g : Nat → Int32) (mx : Nat) (G : Nat → Nat → Int32) (i j : Nat) (h0 : Heap) (ha : a ≤ 3) (hbb : b ≤ 3) (hm : mx ≤ 7) (hi : 0 < i ∧ i ≤ a) (hj : 0 < j ∧ j ≤ b) (D : Grid Z h0 fa ta ra kf kt kr ki a b f g (mx + 2) (b + 1) G) :
    MetFree l (⟨"com/example/keen_guess/keenguess/edit/EditDistance", "swap", "([I[IIII[[I)I"⟩ : MethodName) (head1 [Jvm.Cond.code (⟨"com/example/keen_guess/keenguess/edit/EditDistance", "swap", "([I[IIII[[I)I"⟩ : MethodName) prog_31_method_3_code 9 (some .int)] ({ frames := 1, cells := 0, slots := 0, locals := 16 } : Room)) (fun aa U => aa = #[(.ref fa), (.ref ta), (.int (own_I i)), (.int (own_I j)), (.int (own_I mx)), (.ref ra)] ∧ Z.Warmed39 U.vm ∧ U.heap = h0) (fun _ _ _ _ _ => True) (fun _ U o U' => ∃ v L, o = .returned v ∧ (PQ h0 (some (.int (own_swap (own_E a b f g) (mx + 2) mx G i j)))) v U'.heap L ∧ FrameEnd U o U' L ({ frames := 1, cells := 0, slots := 0, locals := 16 } : Room).cells ({ frames := 1, cells := 0, slots := 0, locals := 16 } : Room).slots) := by
  refine goBody (y := (⟨"com/example/keen_guess/keenguess/edit/EditDistance", "swap", "([I[IIII[[I)I"⟩ : MethodName)) (Q := PQ h0 (some (.int (own_swap (own_E a b f g) (mx + 2) mx G i j)))) (plainFor_of_name (by first | (simp [plainName, overriddenIn]; done) | decide +kernel)) ?_
  intro p e s m below meth c T0 hx hZ hby hml hown hnm hret hlk X0 e0
  have hown : s.vm.findClass "com/example/keen_guess/keenguess/edit/EditDistance" = some m.cls := hown
  refine Go.cast (g' := mkF m 0 #[.val (.ref fa), .val (.ref ta), .val (.int (own_I i)), .val (.int (own_I j)), .val (.int (own_I mx)), .val (.ref ra), .unset, .unset, .unset] []) (by first | (simp [entryFrame, mkF, argsToLocals, Value.category]; done) | rfl) ?_
  show Go p e below _ T0 (mkF m 0 #[.val (.ref fa), .val (.ref ta), .val (.int (own_I i)), .val (.int (own_I j)), .val (.int (own_I mx)), .val (.ref ra), .unset, .unset, .unset] [])
  refine Go.of (fun _ kz => XS.aloadN X0.here hx rfl (hb hby own_sd0) rfl rfl kz) ?_
  show Go p e below _ T0 (mkF m 1 #[.val (.ref fa), .val (.ref ta), .val (.int (own_I i)), .val (.int (own_I j)), .val (.int (own_I mx)), .val (.ref ra), .unset, .unset, .unset] [(.ref fa)])
  refine Go.of (fun _ kz => XS.iloadN X0.here hx rfl (hb hby own_sd1) rfl kz) ?_
  show Go p e below _ T0 (mkF m 2 #[.val (.ref fa), .val (.ref ta), .val (.int (own_I i)), .val (.int (own_I j)), .val (.int (own_I mx)), .val (.ref ra), .unset, .unset, .unset] [(.int (own_I i)), (.ref fa)])
  refine Go.of (fun _ kz => XS.aloadN X0.here hx rfl (hb hby own_sd2) rfl rfl kz) ?_
  show Go p e below _ T0 (mkF m 3 #[.val (.ref fa), .val (.ref ta), .val (.int (own_I i)), .val (.int (own_I j)), .val (.int (own_I mx)), .val (.ref ra), .unset, .unset, .unset] [(.ref ta), (.int (own_I i)), (.ref fa)])
  refine Go.of (fun _ kz => XS.iloadN X0.here hx rfl (hb hby own_sd3) rfl kz) ?_
  show Go p e below _ T0 (mkF m 4 #[.val (.ref fa), .val (.ref ta), .val (.int (own_I i)), .val (.int (own_I j)), .val (.int (own_I mx)), .val (.ref ra), .unset, .unset, .unset] [(.int (own_I j)), (.ref ta), (.int (own_I i)), (.ref fa)])
  refine Go.of (fun _ kz => XS.iconst X0.here hx rfl (hb hby own_sd4) kz) ?_
  show Go p e below _ T0 (mkF m 5 #[.val (.ref fa), .val (.ref ta), .val (.int (own_I i)), .val (.int (own_I j)), .val (.int (own_I mx)), .val (.ref ra), .unset, .unset, .unset] [(.int (1 : Int32)), (.int (own_I j)), (.ref ta), (.int (own_I i)), (.ref fa)])
  refine Go.of (fun _ kz => XS.isub X0.here hx rfl (hb hby own_sd5) rfl kz) ?_
  show Go p e below _ T0 (mkF m 6 #[.val (.ref fa), .val (.ref ta), .val (.int (own_I i)), .val (.int (own_I j)), .val (.int (own_I mx)), .val (.ref ra), .unset, .unset, .unset] [(.int ((own_I j) - (1 : Int32))), (.ref ta), (.int (own_I i)), (.ref fa)])
  rw [own_I_down hj.1]
  show Go p e below _ T0 (mkF m 6 #[.val (.ref fa), .val (.ref ta), .val (.int (own_I i)), .val (.int (own_I j)), .val (.int (own_I mx)), .val (.ref ra), .unset, .unset, .unset] [(.int (own_I (j - 1))), (.ref ta), (.int (own_I i)), (.ref fa)])
  refine Go.gload X0 hx hZ e0 D.2.1 (i := (j - 1)) (by omega) (by omega) (hb hby own_sd6) ?_
  show Go p e below _ T0 (mkF m 7 #[.val (.ref fa), .val (.ref ta), .val (.int (own_I i)), .val (.int (own_I j)), .val (.int (own_I mx)), .val (.ref ra), .unset, .unset, .unset] [(.int (g (j - 1))), (.int (own_I i)), (.ref fa)])
  refine Go.of (fun _ kz => XS.iload X0.here hx rfl (hb hby own_sd7) rfl kz) ?_
  show Go p e below _ T0 (mkF m 9 #[.val (.ref fa), .val (.ref ta), .val (.int (own_I i)), .val (.int (own_I j)), .val (.int (own_I mx)), .val (.ref ra), .unset, .unset, .unset] [(.int (own_I mx)), (.int (g (j - 1))), (.int (own_I i)), (.ref fa)])
  refine Go.callSP (W := 0) (y := (⟨"com/example/keen_guess/keenguess/edit/EditDistance", "lastBefore", "([IIII)I"⟩ : MethodName)) (argsL := [(.ref fa), (.int (own_I i)), (.int (g (j - 1))), (.int (own_I mx))]) (rest := []) (r := some (.int (own_I (own_lb (fun p => own_E a b f g p (j - 1)) i mx (i - 1))))) X0 hx hZ hown (hw _ (List.mem_of_getElem? (i := 28) rfl)) (hw _ (List.mem_of_getElem? (i := 29) rfl)) (hw _ (List.mem_of_getElem? (i := 10) rfl)) (hw _ (List.mem_of_getElem? (i := 30) rfl)) (by decide) (own_rmL l Z a0 hw fa kf a f i mx (g (j - 1)) (fun p => own_E a b f g p (j - 1)) h0 D.1 hi.1 (by omega) (by omega) (by omega) (fun p hp => own_E_at (by omega) (by omega))) e0 (by rw [hml]; rfl) (lenOf own_dsc0 rfl) (hb hby own_sd9) rfl (Nat.le_of_eq rfl) (by decide) (by decide) (by decide) (by decide) fun T1 X1 e1 => ?_
  show Go p e below _ T1 (mkF m 12 #[.val (.ref fa), .val (.ref ta), .val (.int (own_I i)), .val (.int (own_I j)), .val (.int (own_I mx)), .val (.ref ra), .unset, .unset, .unset] [(.int (own_I (own_lb (fun p => own_E a b f g p (j - 1)) i mx (i - 1))))])
  obtain ⟨KK, hKK⟩ : ∃ z, own_lb (fun p => own_E a b f g p (j - 1)) i mx (i - 1) = z := ⟨_, rfl⟩
  have lKK : KK ≤ (i - 1) := hKK ▸ own_lb_le _ _ _ _
  rw [hKK]
  show Go p e below _ T1 (mkF m 12 #[.val (.ref fa), .val (.ref ta), .val (.int (own_I i)), .val (.int (own_I j)), .val (.int (own_I mx)), .val (.ref ra), .unset, .unset, .unset] [(.int (own_I KK))])
  refine Go.of (fun _ kz => XS.istore X1.here hx rfl (hb hby own_sd12) rfl (l' := #[.val (.ref fa), .val (.ref ta), .val (.int (own_I i)), .val (.int (own_I j)), .val (.int (own_I mx)), .val (.ref ra), .val (.int (own_I KK)), .unset, .unset]) rfl kz) ?_
  show Go p e below _ T1 (mkF m 14 #[.val (.ref fa), .val (.ref ta), .val (.int (own_I i)), .val (.int (own_I j)), .val (.int (own_I mx)), .val (.ref ra), .val (.int (own_I KK)), .unset, .unset] [])
  refine Go.of (fun _ kz => XS.aloadN X1.here hx rfl (hb hby own_sd14) rfl rfl kz) ?_
  show Go p e below _ T1 (mkF m 15 #[.val (.ref fa), .val (.ref ta), .val (.int (own_I i)), .val (.int (own_I j)), .val (.int (own_I mx)), .val (.ref ra), .val (.int (own_I KK)), .unset, .unset] [(.ref ta)])
  refine Go.of (fun _ kz => XS.iloadN X1.here hx rfl (hb hby own_sd15) rfl kz) ?_
  show Go p e below _ T1 (mkF m 16 #[.val (.ref fa), .val (.ref ta), .val (.int (own_I i)), .val (.int (own_I j)), .val (.int (own_I mx)), .val (.ref ra), .val (.int (own_I KK)), .unset, .unset] [(.int (own_I j)), (.ref ta)])
  refine Go.of (fun _ kz => XS.aloadN X1.here hx rfl (hb hby own_sd16) rfl rfl kz) ?_
  show Go p e below _ T1 (mkF m 17 #[.val (.ref fa), .val (.ref ta), .val (.int (own_I i)), .val (.int (own_I j)), .val (.int (own_I mx)), .val (.ref ra), .val (.int (own_I KK)), .unset, .unset] [(.ref fa), (.int (own_I j)), (.ref ta)])
  refine Go.of (fun _ kz => XS.iloadN X1.here hx rfl (hb hby own_sd17) rfl kz) ?_
  show Go p e below _ T1 (mkF m 18 #[.val (.ref fa), .val (.ref ta), .val (.int (own_I i)), .val (.int (own_I j)), .val (.int (own_I mx)), .val (.ref ra), .val (.int (own_I KK)), .unset, .unset] [(.int (own_I i)), (.ref fa), (.int (own_I j)), (.ref ta)])
  refine Go.of (fun _ kz => XS.iconst X1.here hx rfl (hb hby own_sd18) kz) ?_
  show Go p e below _ T1 (mkF m 19 #[.val (.ref fa), .val (.ref ta), .val (.int (own_I i)), .val (.int (own_I j)), .val (.int (own_I mx)), .val (.ref ra), .val (.int (own_I KK)), .unset, .unset] [(.int (1 : Int32)), (.int (own_I i)), (.ref fa), (.int (own_I j)), (.ref ta)])
  refine Go.of (fun _ kz => XS.isub X1.here hx rfl (hb hby own_sd19) rfl kz) ?_
  show Go p e below _ T1 (mkF m 20 #[.val (.ref fa), .val (.ref ta), .val (.int (own_I i)), .val (.int (own_I j)), .val (.int (own_I mx)), .val (.ref ra), .val (.int (own_I KK)), .unset, .unset] [(.int ((own_I i) - (1 : Int32))), (.ref fa), (.int (own_I j)), (.ref ta)])
  rw [own_I_down hi.1]
  show Go p e below _ T1 (mkF m 20 #[.val (.ref fa), .val (.ref ta), .val (.int (own_I i)), .val (.int (own_I j)), .val (.int (own_I mx)), .val (.ref ra), .val (.int (own_I KK)), .unset, .unset] [(.int (own_I (i - 1))), (.ref fa), (.int (own_I j)), (.ref ta)])
  refine Go.gload X1 hx hZ e1 D.1 (i := (i - 1)) (by omega) (by omega) (hb hby own_sd20) ?_
  show Go p e below _ T1 (mkF m 21 #[.val (.ref fa), .val (.ref ta), .val (.int (own_I i)), .val (.int (own_I j)), .val (.int (own_I mx)), .val (.ref ra), .val (.int (own_I KK)), .unset, .unset] [(.int (f (i - 1))), (.int (own_I j)), (.ref ta)])
  refine Go.of (fun _ kz => XS.iload X1.here hx rfl (hb hby own_sd21) rfl kz) ?_
  show Go p e below _ T1 (mkF m 23 #[.val (.ref fa), .val (.ref ta), .val (.int (own_I i)), .val (.int (own_I j)), .val (.int (own_I mx)), .val (.ref ra), .val (.int (own_I KK)), .unset, .unset] [(.int (own_I mx)), (.int (f (i - 1))), (.int (own_I j)), (.ref ta)])
  refine Go.callSP (W := 0) (y := (⟨"com/example/keen_guess/keenguess/edit/EditDistance", "lastBefore", "([IIII)I"⟩ : MethodName)) (argsL := [(.ref ta), (.int (own_I j)), (.int (f (i - 1))), (.int (own_I mx))]) (rest := []) (r := some (.int (own_I (own_lb (fun p => own_E a b f g (i - 1) p) j mx (j - 1))))) X1 hx hZ hown (hw _ (List.mem_of_getElem? (i := 28) rfl)) (hw _ (List.mem_of_getElem? (i := 29) rfl)) (hw _ (List.mem_of_getElem? (i := 10) rfl)) (hw _ (List.mem_of_getElem? (i := 30) rfl)) (by decide) (own_rmL l Z a0 hw ta kt b g j mx (f (i - 1)) (fun p => own_E a b f g (i - 1) p) h0 D.2.1 hj.1 (by omega) (by omega) (by omega) (fun p hp => own_E_at' (by omega) (by omega))) e1 (by rw [hml]; rfl) (lenOf own_dsc0 rfl) (hb hby own_sd23) rfl (Nat.le_of_eq rfl) (by decide) (by decide) (by decide) (by decide) fun T2 X2 e2 => ?_
  show Go p e below _ T2 (mkF m 26 #[.val (.ref fa), .val (.ref ta), .val (.int (own_I i)), .val (.int (own_I j)), .val (.int (own_I mx)), .val (.ref ra), .val (.int (own_I KK)), .unset, .unset] [(.int (own_I (own_lb (fun p => own_E a b f g (i - 1) p) j mx (j - 1))))])
  obtain ⟨LL, hLL⟩ : ∃ z, own_lb (fun p => own_E a b f g (i - 1) p) j mx (j - 1) = z := ⟨_, rfl⟩
  have lLL : LL ≤ (j - 1) := hLL ▸ own_lb_le _ _ _ _
  rw [hLL]
  show Go p e below _ T2 (mkF m 26 #[.val (.ref fa), .val (.ref ta), .val (.int (own_I i)), .val (.int (own_I j)), .val (.int (own_I mx)), .val (.ref ra), .val (.int (own_I KK)), .unset, .unset] [(.int (own_I LL))])
  refine Go.of (fun _ kz => XS.istore X2.here hx rfl (hb hby own_sd26) rfl (l' := #[.val (.ref fa), .val (.ref ta), .val (.int (own_I i)), .val (.int (own_I j)), .val (.int (own_I mx)), .val (.ref ra), .val (.int (own_I KK)), .val (.int (own_I LL)), .unset]) rfl kz) ?_
  show Go p e below _ T2 (mkF m 28 #[.val (.ref fa), .val (.ref ta), .val (.int (own_I i)), .val (.int (own_I j)), .val (.int (own_I mx)), .val (.ref ra), .val (.int (own_I KK)), .val (.int (own_I LL)), .unset] [])
  refine Go.of (fun _ kz => XS.iload X2.here hx rfl (hb hby own_sd28) rfl kz) ?_
  show Go p e below _ T2 (mkF m 30 #[.val (.ref fa), .val (.ref ta), .val (.int (own_I i)), .val (.int (own_I j)), .val (.int (own_I mx)), .val (.ref ra), .val (.int (own_I KK)), .val (.int (own_I LL)), .unset] [(.int (own_I mx))])
  refine Go.of (fun _ kz => XS.iconst X2.here hx rfl (hb hby own_sd30) kz) ?_
  show Go p e below _ T2 (mkF m 31 #[.val (.ref fa), .val (.ref ta), .val (.int (own_I i)), .val (.int (own_I j)), .val (.int (own_I mx)), .val (.ref ra), .val (.int (own_I KK)), .val (.int (own_I LL)), .unset] [(.int (1 : Int32)), (.int (own_I mx))])
  refine Go.of (fun _ kz => XS.iadd X2.here hx rfl (hb hby own_sd31) rfl kz) ?_
  show Go p e below _ T2 (mkF m 32 #[.val (.ref fa), .val (.ref ta), .val (.int (own_I i)), .val (.int (own_I j)), .val (.int (own_I mx)), .val (.ref ra), .val (.int (own_I KK)), .val (.int (own_I LL)), .unset] [(.int ((own_I mx) + (1 : Int32)))])
  refine Go.of (fun _ kz => XS.istore X2.here hx rfl (hb hby own_sd32) rfl (l' := #[.val (.ref fa), .val (.ref ta), .val (.int (own_I i)), .val (.int (own_I j)), .val (.int (own_I mx)), .val (.ref ra), .val (.int (own_I KK)), .val (.int (own_I LL)), .val (.int ((own_I mx) + (1 : Int32)))]) rfl kz) ?_
  show Go p e below _ T2 (mkF m 34 #[.val (.ref fa), .val (.ref ta), .val (.int (own_I i)), .val (.int (own_I j)), .val (.int (own_I mx)), .val (.ref ra), .val (.int (own_I KK)), .val (.int (own_I LL)), .val (.int ((own_I mx) + (1 : Int32)))] [])
  refine Go.of (fun _ kz => XS.iload X2.here hx rfl (hb hby own_sd34) rfl kz) ?_
  show Go p e below _ T2 (mkF m 36 #[.val (.ref fa), .val (.ref ta), .val (.int (own_I i)), .val (.int (own_I j)), .val (.int (own_I mx)), .val (.ref ra), .val (.int (own_I KK)), .val (.int (own_I LL)), .val (.int ((own_I mx) + (1 : Int32)))] [(.int (own_I KK))])
  by_cases hc36 : (0 : Int32) < (own_I KK)
  ·
    refine Go.of (fun _ kz => XS.ifNo X2.here hx rfl (hb hby own_sd36) rfl ((if0 _ _).trans (tlt hc36).2.2.2) kz) ?_
    show Go p e below _ T2 (mkF m 39 #[.val (.ref fa), .val (.ref ta), .val (.int (own_I i)), .val (.int (own_I j)), .val (.int (own_I mx)), .val (.ref ra), .val (.int (own_I KK)), .val (.int (own_I LL)), .val (.int ((own_I mx) + (1 : Int32)))] [])
    have pKK : 0 < KK := own_pos_of hc36 (by omega)
    refine Go.of (fun _ kz => XS.iload X2.here hx rfl (hb hby own_sd39) rfl kz) ?_
    show Go p e below _ T2 (mkF m 41 #[.val (.ref fa), .val (.ref ta), .val (.int (own_I i)), .val (.int (own_I j)), .val (.int (own_I mx)), .val (.ref ra), .val (.int (own_I KK)), .val (.int (own_I LL)), .val (.int ((own_I mx) + (1 : Int32)))] [(.int (own_I LL))])
    by_cases hc41 : (0 : Int32) < (own_I LL)
    ·
      refine Go.of (fun _ kz => XS.ifNo X2.here hx rfl (hb hby own_sd41) rfl ((if0 _ _).trans (tlt hc41).2.2.2) kz) ?_
      show Go p e below _ T2 (mkF m 44 #[.val (.ref fa), .val (.ref ta), .val (.int (own_I i)), .val (.int (own_I j)), .val (.int (own_I mx)), .val (.ref ra), .val (.int (own_I KK)), .val (.int (own_I LL)), .val (.int ((own_I mx) + (1 : Int32)))] [])
      have pLL : 0 < LL := own_pos_of hc41 (by omega)
      refine Go.of (fun _ kz => XS.iload X2.here hx rfl (hb hby own_sd44) rfl kz) ?_
      show Go p e below _ T2 (mkF m 46 #[.val (.ref fa), .val (.ref ta), .val (.int (own_I i)), .val (.int (own_I j)), .val (.int (own_I mx)), .val (.ref ra), .val (.int (own_I KK)), .val (.int (own_I LL)), .val (.int ((own_I mx) + (1 : Int32)))] [(.int (own_I KK))])
      refine Go.of (fun _ kz => XS.iload X2.here hx rfl (hb hby own_sd46) rfl kz) ?_
      show Go p e below _ T2 (mkF m 48 #[.val (.ref fa), .val (.ref ta), .val (.int (own_I i)), .val (.int (own_I j)), .val (.int (own_I mx)), .val (.ref ra), .val (.int (own_I KK)), .val (.int (own_I LL)), .val (.int ((own_I mx) + (1 : Int32)))] [(.int (own_I LL)), (.int (own_I KK))])
      refine Go.of (fun _ kz => XS.isub X2.here hx rfl (hb hby own_sd48) rfl kz) ?_
      show Go p e below _ T2 (mkF m 49 #[.val (.ref fa), .val (.ref ta), .val (.int (own_I i)), .val (.int (own_I j)), .val (.int (own_I mx)), .val (.ref ra), .val (.int (own_I KK)), .val (.int (own_I LL)), .val (.int ((own_I mx) + (1 : Int32)))] [(.int ((own_I KK) - (own_I LL)))])
      refine Go.callSP (W := 0) (y := (⟨"java/lang/Math", "abs", "(I)I"⟩ : MethodName)) (argsL := [(.int ((own_I KK) - (own_I LL)))]) (rest := []) (r := some (.int (own_abs ((own_I KK) - (own_I LL))))) X2 hx hZ hown (hw _ (List.mem_of_getElem? (i := 12) rfl)) (hw _ (List.mem_of_getElem? (i := 13) rfl)) (hw _ (List.mem_of_getElem? (i := 14) rfl)) (hw _ (List.mem_of_getElem? (i := 15) rfl)) (by decide) (own_rmA l Z a0 hw ((own_I KK) - (own_I LL)) h0) e2 (by rw [hml]; rfl) (lenOf own_dsc1 rfl) (hb hby own_sd49) rfl (Nat.le_of_eq rfl) (by decide) (by decide) (by decide) (by decide) fun T3 X3 e3 => ?_
      show Go p e below _ T3 (mkF m 52 #[.val (.ref fa), .val (.ref ta), .val (.int (own_I i)), .val (.int (own_I j)), .val (.int (own_I mx)), .val (.ref ra), .val (.int (own_I KK)), .val (.int (own_I LL)), .val (.int ((own_I mx) + (1 : Int32)))] [(.int (own_abs ((own_I KK) - (own_I LL))))])
      refine Go.of (fun _ kz => XS.iload X3.here hx rfl (hb hby own_sd52) rfl kz) ?_
      show Go p e below _ T3 (mkF m 54 #[.val (.ref fa), .val (.ref ta), .val (.int (own_I i)), .val (.int (own_I j)), .val (.int (own_I mx)), .val (.ref ra), .val (.int (own_I KK)), .val (.int (own_I LL)), .val (.int ((own_I mx) + (1 : Int32)))] [(.int (own_I mx)), (.int (own_abs ((own_I KK) - (own_I LL))))])
      by_cases hc54 : (own_I mx) < (own_abs ((own_I KK) - (own_I LL)))
      ·
        refine Go.of (fun _ kz => XS.icmpYes X3.here hx rfl (pc0 := 54) (pc' := 91) rfl (hb hby own_sd54) rfl (tlt hc54).2.2.1 (by decide) (by decide) kz) ?_
        show Go p e below _ T3 (mkF m 91 #[.val (.ref fa), .val (.ref ta), .val (.int (own_I i)), .val (.int (own_I j)), .val (.int (own_I mx)), .val (.ref ra), .val (.int (own_I KK)), .val (.int (own_I LL)), .val (.int ((own_I mx) + (1 : Int32)))] [])
        refine Go.of (fun _ kz => XS.iload X3.here hx rfl (hb hby own_sd91) rfl kz) ?_
        show Go p e below _ T3 (mkF m 93 #[.val (.ref fa), .val (.ref ta), .val (.int (own_I i)), .val (.int (own_I j)), .val (.int (own_I mx)), .val (.ref ra), .val (.int (own_I KK)), .val (.int (own_I LL)), .val (.int ((own_I mx) + (1 : Int32)))] [(.int ((own_I mx) + (1 : Int32)))])
        exact Go.retI X3 hx hlk hret (hb hby own_sd93) (by decide) (by decide) ⟨congrArg (fun z => some (Value.int z)) (show ((own_I mx) + (1 : Int32)) = own_swap (own_E a b f g) (mx + 2) mx G i j by rw [own_swap, hKK, hLL, if_pos pKK, if_pos pLL, if_pos hc54]), rfl, e3⟩
      ·
        refine Go.of (fun _ kz => XS.icmpNo X3.here hx rfl (hb hby own_sd54) rfl (flt hc54).2.2.1 kz) ?_
        show Go p e below _ T3 (mkF m 57 #[.val (.ref fa), .val (.ref ta), .val (.int (own_I i)), .val (.int (own_I j)), .val (.int (own_I mx)), .val (.ref ra), .val (.int (own_I KK)), .val (.int (own_I LL)), .val (.int ((own_I mx) + (1 : Int32)))] [])
        refine Go.of (fun _ kz => XS.aload X3.here hx rfl (hb hby own_sd57) rfl rfl kz) ?_
        show Go p e below _ T3 (mkF m 59 #[.val (.ref fa), .val (.ref ta), .val (.int (own_I i)), .val (.int (own_I j)), .val (.int (own_I mx)), .val (.ref ra), .val (.int (own_I KK)), .val (.int (own_I LL)), .val (.int ((own_I mx) + (1 : Int32)))] [(.ref ra)])
        refine Go.of (fun _ kz => XS.iload X3.here hx rfl (hb hby own_sd59) rfl kz) ?_
        show Go p e below _ T3 (mkF m 61 #[.val (.ref fa), .val (.ref ta), .val (.int (own_I i)), .val (.int (own_I j)), .val (.int (own_I mx)), .val (.ref ra), .val (.int (own_I KK)), .val (.int (own_I LL)), .val (.int ((own_I mx) + (1 : Int32)))] [(.int (own_I KK)), (.ref ra)])
        refine Go.of (fun _ kz => XS.iconst X3.here hx rfl (hb hby own_sd61) kz) ?_
        show Go p e below _ T3 (mkF m 62 #[.val (.ref fa), .val (.ref ta), .val (.int (own_I i)), .val (.int (own_I j)), .val (.int (own_I mx)), .val (.ref ra), .val (.int (own_I KK)), .val (.int (own_I LL)), .val (.int ((own_I mx) + (1 : Int32)))] [(.int (1 : Int32)), (.int (own_I KK)), (.ref ra)])
        refine Go.of (fun _ kz => XS.isub X3.here hx rfl (hb hby own_sd62) rfl kz) ?_
        show Go p e below _ T3 (mkF m 63 #[.val (.ref fa), .val (.ref ta), .val (.int (own_I i)), .val (.int (own_I j)), .val (.int (own_I mx)), .val (.ref ra), .val (.int (own_I KK)), .val (.int (own_I LL)), .val (.int ((own_I mx) + (1 : Int32)))] [(.int ((own_I KK) - (1 : Int32))), (.ref ra)])
        rw [own_I_down pKK]
        show Go p e below _ T3 (mkF m 63 #[.val (.ref fa), .val (.ref ta), .val (.int (own_I i)), .val (.int (own_I j)), .val (.int (own_I mx)), .val (.ref ra), .val (.int (own_I KK)), .val (.int (own_I LL)), .val (.int ((own_I mx) + (1 : Int32)))] [(.int (own_I (KK - 1))), (.ref ra)])
        refine Go.of (fun _ kz => XS.aload X3.here hx rfl (hb hby own_sd63) rfl rfl kz) ?_
        show Go p e below _ T3 (mkF m 65 #[.val (.ref fa), .val (.ref ta), .val (.int (own_I i)), .val (.int (own_I j)), .val (.int (own_I mx)), .val (.ref ra), .val (.int (own_I KK)), .val (.int (own_I LL)), .val (.int ((own_I mx) + (1 : Int32)))] [(.ref ra), (.int (own_I (KK - 1))), (.ref ra)])
        refine Go.len X3 hx hZ e3 D.2.2.1 (hb hby own_sd65) ?_
        show Go p e below _ T3 (mkF m 66 #[.val (.ref fa), .val (.ref ta), .val (.int (own_I i)), .val (.int (own_I j)), .val (.int (own_I mx)), .val (.ref ra), .val (.int (own_I KK)), .val (.int (own_I LL)), .val (.int ((own_I mx) + (1 : Int32)))] [(.int (own_I (mx + 2))), (.int (own_I (KK - 1))), (.ref ra)])
        refine Go.of (fun _ kz => iremM X3 hx rfl (hb hby own_sd66) rfl (own_nz (by omega) (by omega)) kz) ?_
        show Go p e below _ T3 (mkF m 67 #[.val (.ref fa), .val (.ref ta), .val (.int (own_I i)), .val (.int (own_I j)), .val (.int (own_I mx)), .val (.ref ra), .val (.int (own_I KK)), .val (.int (own_I LL)), .val (.int ((own_I mx) + (1 : Int32)))] [(.int ((own_I (KK - 1)) % (own_I (mx + 2)))), (.ref ra)])
        rw [own_I_mod (by omega) (by omega)]
        show Go p e below _ T3 (mkF m 67 #[.val (.ref fa), .val (.ref ta), .val (.int (own_I i)), .val (.int (own_I j)), .val (.int (own_I mx)), .val (.ref ra), .val (.int (own_I KK)), .val (.int (own_I LL)), .val (.int ((own_I mx) + (1 : Int32)))] [(.int (own_I ((KK - 1) % (mx + 2)))), (.ref ra)])
        refine Go.grow X3 hx hZ e3 D (r := ((KK - 1) % (mx + 2))) (Nat.mod_lt _ (by omega)) (by omega) (hb hby own_sd67) ?_
        show Go p e below _ T3 (mkF m 68 #[.val (.ref fa), .val (.ref ta), .val (.int (own_I i)), .val (.int (own_I j)), .val (.int (own_I mx)), .val (.ref ra), .val (.int (own_I KK)), .val (.int (own_I LL)), .val (.int ((own_I mx) + (1 : Int32)))] [(.ref (ra + 1 + ((KK - 1) % (mx + 2))))])
        refine Go.of (fun _ kz => XS.iload X3.here hx rfl (hb hby own_sd68) rfl kz) ?_
        show Go p e below _ T3 (mkF m 70 #[.val (.ref fa), .val (.ref ta), .val (.int (own_I i)), .val (.int (own_I j)), .val (.int (own_I mx)), .val (.ref ra), .val (.int (own_I KK)), .val (.int (own_I LL)), .val (.int ((own_I mx) + (1 : Int32)))] [(.int (own_I LL)), (.ref (ra + 1 + ((KK - 1) % (mx + 2))))])
        refine Go.of (fun _ kz => XS.iconst X3.here hx rfl (hb hby own_sd70) kz) ?_
        show Go p e below _ T3 (mkF m 71 #[.val (.ref fa), .val (.ref ta), .val (.int (own_I i)), .val (.int (own_I j)), .val (.int (own_I mx)), .val (.ref ra), .val (.int (own_I KK)), .val (.int (own_I LL)), .val (.int ((own_I mx) + (1 : Int32)))] [(.int (1 : Int32)), (.int (own_I LL)), (.ref (ra + 1 + ((KK - 1) % (mx + 2))))])
        refine Go.of (fun _ kz => XS.isub X3.here hx rfl (hb hby own_sd71) rfl kz) ?_
        show Go p e below _ T3 (mkF m 72 #[.val (.ref fa), .val (.ref ta), .val (.int (own_I i)), .val (.int (own_I j)), .val (.int (own_I mx)), .val (.ref ra), .val (.int (own_I KK)), .val (.int (own_I LL)), .val (.int ((own_I mx) + (1 : Int32)))] [(.int ((own_I LL) - (1 : Int32))), (.ref (ra + 1 + ((KK - 1) % (mx + 2))))])
        rw [own_I_down pLL]
        show Go p e below _ T3 (mkF m 72 #[.val (.ref fa), .val (.ref ta), .val (.int (own_I i)), .val (.int (own_I j)), .val (.int (own_I mx)), .val (.ref ra), .val (.int (own_I KK)), .val (.int (own_I LL)), .val (.int ((own_I mx) + (1 : Int32)))] [(.int (own_I (LL - 1))), (.ref (ra + 1 + ((KK - 1) % (mx + 2))))])
        refine Go.gload X3 hx hZ e3 (D.2.2.2.1 ((KK - 1) % (mx + 2)) (Nat.mod_lt _ (by omega))) (i := (LL - 1)) (by omega) (by omega) (hb hby own_sd72) ?_
        show Go p e below _ T3 (mkF m 73 #[.val (.ref fa), .val (.ref ta), .val (.int (own_I i)), .val (.int (own_I j)), .val (.int (own_I mx)), .val (.ref ra), .val (.int (own_I KK)), .val (.int (own_I LL)), .val (.int ((own_I mx) + (1 : Int32)))] [(.int (G ((KK - 1) % (mx + 2)) (LL - 1)))])
        refine Go.of (fun _ kz => XS.iloadN X3.here hx rfl (hb hby own_sd73) rfl kz) ?_
        show Go p e below _ T3 (mkF m 74 #[.val (.ref fa), .val (.ref ta), .val (.int (own_I i)), .val (.int (own_I j)), .val (.int (own_I mx)), .val (.ref ra), .val (.int (own_I KK)), .val (.int (own_I LL)), .val (.int ((own_I mx) + (1 : Int32)))] [(.int (own_I i)), (.int (G ((KK - 1) % (mx + 2)) (LL - 1)))])
        refine Go.of (fun _ kz => XS.iload X3.here hx rfl (hb hby own_sd74) rfl kz) ?_
        show Go p e below _ T3 (mkF m 76 #[.val (.ref fa), .val (.ref ta), .val (.int (own_I i)), .val (.int (own_I j)), .val (.int (own_I mx)), .val (.ref ra), .val (.int (own_I KK)), .val (.int (own_I LL)), .val (.int ((own_I mx) + (1 : Int32)))] [(.int (own_I KK)), (.int (own_I i)), (.int (G ((KK - 1) % (mx + 2)) (LL - 1)))])
        refine Go.of (fun _ kz => XS.isub X3.here hx rfl (hb hby own_sd76) rfl kz) ?_
        show Go p e below _ T3 (mkF m 77 #[.val (.ref fa), .val (.ref ta), .val (.int (own_I i)), .val (.int (own_I j)), .val (.int (own_I mx)), .val (.ref ra), .val (.int (own_I KK)), .val (.int (own_I LL)), .val (.int ((own_I mx) + (1 : Int32)))] [(.int ((own_I i) - (own_I KK))), (.int (G ((KK - 1) % (mx + 2)) (LL - 1)))])
        refine Go.of (fun _ kz => XS.iconst X3.here hx rfl (hb hby own_sd77) kz) ?_
        show Go p e below _ T3 (mkF m 78 #[.val (.ref fa), .val (.ref ta), .val (.int (own_I i)), .val (.int (own_I j)), .val (.int (own_I mx)), .val (.ref ra), .val (.int (own_I KK)), .val (.int (own_I LL)), .val (.int ((own_I mx) + (1 : Int32)))] [(.int (1 : Int32)), (.int ((own_I i) - (own_I KK))), (.int (G ((KK - 1) % (mx + 2)) (LL - 1)))])
        refine Go.of (fun _ kz => XS.isub X3.here hx rfl (hb hby own_sd78) rfl kz) ?_
        show Go p e below _ T3 (mkF m 79 #[.val (.ref fa), .val (.ref ta), .val (.int (own_I i)), .val (.int (own_I j)), .val (.int (own_I mx)), .val (.ref ra), .val (.int (own_I KK)), .val (.int (own_I LL)), .val (.int ((own_I mx) + (1 : Int32)))] [(.int (((own_I i) - (own_I KK)) - (1 : Int32))), (.int (G ((KK - 1) % (mx + 2)) (LL - 1)))])
        refine Go.of (fun _ kz => XS.iadd X3.here hx rfl (hb hby own_sd79) rfl kz) ?_
        show Go p e below _ T3 (mkF m 80 #[.val (.ref fa), .val (.ref ta), .val (.int (own_I i)), .val (.int (own_I j)), .val (.int (own_I mx)), .val (.ref ra), .val (.int (own_I KK)), .val (.int (own_I LL)), .val (.int ((own_I mx) + (1 : Int32)))] [(.int ((G ((KK - 1) % (mx + 2)) (LL - 1)) + (((own_I i) - (own_I KK)) - (1 : Int32))))])
        refine Go.of (fun _ kz => XS.iconst X3.here hx rfl (hb hby own_sd80) kz) ?_
        show Go p e below _ T3 (mkF m 81 #[.val (.ref fa), .val (.ref ta), .val (.int (own_I i)), .val (.int (own_I j)), .val (.int (own_I mx)), .val (.ref ra), .val (.int (own_I KK)), .val (.int (own_I LL)), .val (.int ((own_I mx) + (1 : Int32)))] [(.int (1 : Int32)), (.int ((G ((KK - 1) % (mx + 2)) (LL - 1)) + (((own_I i) - (own_I KK)) - (1 : Int32))))])
        refine Go.of (fun _ kz => XS.iadd X3.here hx rfl (hb hby own_sd81) rfl kz) ?_
        show Go p e below _ T3 (mkF m 82 #[.val (.ref fa), .val (.ref ta), .val (.int (own_I i)), .val (.int (own_I j)), .val (.int (own_I mx)), .val (.ref ra), .val (.int (own_I KK)), .val (.int (own_I LL)), .val (.int ((own_I mx) + (1 : Int32)))] [(.int (((G ((KK - 1) % (mx + 2)) (LL - 1)) + (((own_I i) - (own_I KK)) - (1 : Int32))) + (1 : Int32)))])
        refine Go.of (fun _ kz => XS.iloadN X3.here hx rfl (hb hby own_sd82) rfl kz) ?_
        show Go p e below _ T3 (mkF m 83 #[.val (.ref fa), .val (.ref ta), .val (.int (own_I i)), .val (.int (own_I j)), .val (.int (own_I mx)), .val (.ref ra), .val (.int (own_I KK)), .val (.int (own_I LL)), .val (.int ((own_I mx) + (1 : Int32)))] [(.int (own_I j)), (.int (((G ((KK - 1) % (mx + 2)) (LL - 1)) + (((own_I i) - (own_I KK)) - (1 : Int32))) + (1 : Int32)))])
        refine Go.of (fun _ kz => XS.iload X3.here hx rfl (hb hby own_sd83) rfl kz) ?_
        show Go p e below _ T3 (mkF m 85 #[.val (.ref fa), .val (.ref ta), .val (.int (own_I i)), .val (.int (own_I j)), .val (.int (own_I mx)), .val (.ref ra), .val (.int (own_I KK)), .val (.int (own_I LL)), .val (.int ((own_I mx) + (1 : Int32)))] [(.int (own_I LL)), (.int (own_I j)), (.int (((G ((KK - 1) % (mx + 2)) (LL - 1)) + (((own_I i) - (own_I KK)) - (1 : Int32))) + (1 : Int32)))])
        refine Go.of (fun _ kz => XS.isub X3.here hx rfl (hb hby own_sd85) rfl kz) ?_
        show Go p e below _ T3 (mkF m 86 #[.val (.ref fa), .val (.ref ta), .val (.int (own_I i)), .val (.int (own_I j)), .val (.int (own_I mx)), .val (.ref ra), .val (.int (own_I KK)), .val (.int (own_I LL)), .val (.int ((own_I mx) + (1 : Int32)))] [(.int ((own_I j) - (own_I LL))), (.int (((G ((KK - 1) % (mx + 2)) (LL - 1)) + (((own_I i) - (own_I KK)) - (1 : Int32))) + (1 : Int32)))])
        refine Go.of (fun _ kz => XS.iconst X3.here hx rfl (hb hby own_sd86) kz) ?_
        show Go p e below _ T3 (mkF m 87 #[.val (.ref fa), .val (.ref ta), .val (.int (own_I i)), .val (.int (own_I j)), .val (.int (own_I mx)), .val (.ref ra), .val (.int (own_I KK)), .val (.int (own_I LL)), .val (.int ((own_I mx) + (1 : Int32)))] [(.int (1 : Int32)), (.int ((own_I j) - (own_I LL))), (.int (((G ((KK - 1) % (mx + 2)) (LL - 1)) + (((own_I i) - (own_I KK)) - (1 : Int32))) + (1 : Int32)))])
        refine Go.of (fun _ kz => XS.isub X3.here hx rfl (hb hby own_sd87) rfl kz) ?_
        show Go p e below _ T3 (mkF m 88 #[.val (.ref fa), .val (.ref ta), .val (.int (own_I i)), .val (.int (own_I j)), .val (.int (own_I mx)), .val (.ref ra), .val (.int (own_I KK)), .val (.int (own_I LL)), .val (.int ((own_I mx) + (1 : Int32)))] [(.int (((own_I j) - (own_I LL)) - (1 : Int32))), (.int (((G ((KK - 1) % (mx + 2)) (LL - 1)) + (((own_I i) - (own_I KK)) - (1 : Int32))) + (1 : Int32)))])
        refine Go.of (fun _ kz => XS.iadd X3.here hx rfl (hb hby own_sd88) rfl kz) ?_
        show Go p e below _ T3 (mkF m 89 #[.val (.ref fa), .val (.ref ta), .val (.int (own_I i)), .val (.int (own_I j)), .val (.int (own_I mx)), .val (.ref ra), .val (.int (own_I KK)), .val (.int (own_I LL)), .val (.int ((own_I mx) + (1 : Int32)))] [(.int ((((G ((KK - 1) % (mx + 2)) (LL - 1)) + (((own_I i) - (own_I KK)) - (1 : Int32))) + (1 : Int32)) + (((own_I j) - (own_I LL)) - (1 : Int32))))])
        refine Go.of (fun _ kz => XS.istore X3.here hx rfl (hb hby own_sd89) rfl (l' := #[.val (.ref fa), .val (.ref ta), .val (.int (own_I i)), .val (.int (own_I j)), .val (.int (own_I mx)), .val (.ref ra), .val (.int (own_I KK)), .val (.int (own_I LL)), .val (.int ((((G ((KK - 1) % (mx + 2)) (LL - 1)) + (((own_I i) - (own_I KK)) - (1 : Int32))) + (1 : Int32)) + (((own_I j) - (own_I LL)) - (1 : Int32))))]) rfl kz) ?_
        show Go p e below _ T3 (mkF m 91 #[.val (.ref fa), .val (.ref ta), .val (.int (own_I i)), .val (.int (own_I j)), .val (.int (own_I mx)), .val (.ref ra), .val (.int (own_I KK)), .val (.int (own_I LL)), .val (.int ((((G ((KK - 1) % (mx + 2)) (LL - 1)) + (((own_I i) - (own_I KK)) - (1 : Int32))) + (1 : Int32)) + (((own_I j) - (own_I LL)) - (1 : Int32))))] [])
        refine Go.of (fun _ kz => XS.iload X3.here hx rfl (hb hby own_sd91) rfl kz) ?_
        show Go p e below _ T3 (mkF m 93 #[.val (.ref fa), .val (.ref ta), .val (.int (own_I i)), .val (.int (own_I j)), .val (.int (own_I mx)), .val (.ref ra), .val (.int (own_I KK)), .val (.int (own_I LL)), .val (.int ((((G ((KK - 1) % (mx + 2)) (LL - 1)) + (((own_I i) - (own_I KK)) - (1 : Int32))) + (1 : Int32)) + (((own_I j) - (own_I LL)) - (1 : Int32))))] [(.int ((((G ((KK - 1) % (mx + 2)) (LL - 1)) + (((own_I i) - (own_I KK)) - (1 : Int32))) + (1 : Int32)) + (((own_I j) - (own_I LL)) - (1 : Int32))))])
        exact Go.retI X3 hx hlk hret (hb hby own_sd93) (by decide) (by decide) ⟨congrArg (fun z => some (Value.int z)) (show ((((G ((KK - 1) % (mx + 2)) (LL - 1)) + (((own_I i) - (own_I KK)) - (1 : Int32))) + (1 : Int32)) + (((own_I j) - (own_I LL)) - (1 : Int32))) = own_swap (own_E a b f g) (mx + 2) mx G i j by rw [own_swap, hKK, hLL, if_pos pKK, if_pos pLL, if_neg hc54]), rfl, e3⟩
    ·
      refine Go.of (fun _ kz => XS.ifYes X2.here hx rfl (pc0 := 41) (pc' := 91) rfl (hb hby own_sd41) rfl ((if0 _ _).trans (flt hc41).2.2.2) (by decide) (by decide) kz) ?_
      show Go p e below _ T2 (mkF m 91 #[.val (.ref fa), .val (.ref ta), .val (.int (own_I i)), .val (.int (own_I j)), .val (.int (own_I mx)), .val (.ref ra), .val (.int (own_I KK)), .val (.int (own_I LL)), .val (.int ((own_I mx) + (1 : Int32)))] [])
      refine Go.of (fun _ kz => XS.iload X2.here hx rfl (hb hby own_sd91) rfl kz) ?_
      show Go p e below _ T2 (mkF m 93 #[.val (.ref fa), .val (.ref ta), .val (.int (own_I i)), .val (.int (own_I j)), .val (.int (own_I mx)), .val (.ref ra), .val (.int (own_I KK)), .val (.int (own_I LL)), .val (.int ((own_I mx) + (1 : Int32)))] [(.int ((own_I mx) + (1 : Int32)))])
      exact Go.retI X2 hx hlk hret (hb hby own_sd93) (by decide) (by decide) ⟨congrArg (fun z => some (Value.int z)) (show ((own_I mx) + (1 : Int32)) = own_swap (own_E a b f g) (mx + 2) mx G i j by rw [own_swap, hKK, hLL, if_pos pKK, if_neg (fun z => hc41 ((own_I_lt (n := 0) (by omega) (by omega)).mpr z))]), rfl, e2⟩
  ·
    refine Go.of (fun _ kz => XS.ifYes X2.here hx rfl (pc0 := 36) (pc' := 91) rfl (hb hby own_sd36) rfl ((if0 _ _).trans (flt hc36).2.2.2) (by decide) (by decide) kz) ?_
    show Go p e below _ T2 (mkF m 91 #[.val (.ref fa), .val (.ref ta), .val (.int (own_I i)), .val (.int (own_I j)), .val (.int (own_I mx)), .val (.ref ra), .val (.int (own_I KK)), .val (.int (own_I LL)), .val (.int ((own_I mx) + (1 : Int32)))] [])
    refine Go.of (fun _ kz => XS.iload X2.here hx rfl (hb hby own_sd91) rfl kz) ?_
    show Go p e below _ T2 (mkF m 93 #[.val (.ref fa), .val (.ref ta), .val (.int (own_I i)), .val (.int (own_I j)), .val (.int (own_I mx)), .val (.ref ra), .val (.int (own_I KK)), .val (.int (own_I LL)), .val (.int ((own_I mx) + (1 : Int32)))] [(.int ((own_I mx) + (1 : Int32)))])
    exact Go.retI X2 hx hlk hret (hb hby own_sd93) (by decide) (by decide) ⟨congrArg (fun z => some (Value.int z)) (show ((own_I mx) + (1 : Int32)) = own_swap (own_E a b f g) (mx + 2) mx G i j by rw [own_swap, hKK, hLL, if_neg (fun z => hc36 ((own_I_lt (n := 0) (by omega) (by omega)).mpr z))]), rfl, e2⟩
theorem own_dd0 : decode prog_31_method_2_code 0 = .ok (.iload_n 2, 1) := by decide +kernel
theorem own_dd1 : decode prog_31_method_2_code 1 = .ok (.ifCond .ge 17, 3) := by decide +kernel
theorem own_dd18 : decode prog_31_method_2_code 18 = .ok (.iload_n 2, 1) := by decide +kernel
theorem own_dd19 : decode prog_31_method_2_code 19 = .ok (.iconst 1, 1) := by decide +kernel
theorem own_dd20 : decode prog_31_method_2_code 20 = .ok (.iadd, 1) := by decide +kernel
theorem own_dd21 : decode prog_31_method_2_code 21 = .ok (.istore_n 3, 1) := by decide +kernel
theorem own_dd22 : decode prog_31_method_2_code 22 = .ok (.aload_n 0, 1) := by decide +kernel
theorem own_dd23 : decode prog_31_method_2_code 23 = .ok (.arraylength, 1) := by decide +kernel
theorem own_dd24 : decode prog_31_method_2_code 24 = .ok (.aload_n 1, 1) := by decide +kernel
theorem own_dd25 : decode prog_31_method_2_code 25 = .ok (.arraylength, 1) := by decide +kernel
theorem own_dd26 : decode prog_31_method_2_code 26 = .ok (.isub, 1) := by decide +kernel
theorem own_dd27 : decode prog_31_method_2_code 27 = .ok (.invokestatic 16, 3) := by decide +kernel
theorem own_dd30 : decode prog_31_method_2_code 30 = .ok (.iload_n 2, 1) := by decide +kernel
theorem own_dd31 : decode prog_31_method_2_code 31 = .ok (.if_icmp .le 5, 3) := by decide +kernel
theorem own_dd34 : decode prog_31_method_2_code 34 = .ok (.iload_n 3, 1) := by decide +kernel
theorem own_dd35 : decode prog_31_method_2_code 35 = .ok (.ireturn, 1) := by decide +kernel
theorem own_dd36 : decode prog_31_method_2_code 36 = .ok (.iload_n 2, 1) := by decide +kernel
theorem own_dd37 : decode prog_31_method_2_code 37 = .ok (.iconst 2, 1) := by decide +kernel
theorem own_dd38 : decode prog_31_method_2_code 38 = .ok (.iadd, 1) := by decide +kernel
theorem own_dd39 : decode prog_31_method_2_code 39 = .ok (.aload_n 1, 1) := by decide +kernel
theorem own_dd40 : decode prog_31_method_2_code 40 = .ok (.arraylength, 1) := by decide +kernel
theorem own_dd41 : decode prog_31_method_2_code 41 = .ok (.iconst 1, 1) := by decide +kernel
theorem own_dd42 : decode prog_31_method_2_code 42 = .ok (.iadd, 1) := by decide +kernel
theorem own_dd43 : decode prog_31_method_2_code 43 = .ok (.multianewarray 22 2, 4) := by decide +kernel
theorem own_dd47 : decode prog_31_method_2_code 47 = .ok (.astore 4, 2) := by decide +kernel
theorem own_dd49 : decode prog_31_method_2_code 49 = .ok (.iconst 0, 1) := by decide +kernel
theorem own_dd50 : decode prog_31_method_2_code 50 = .ok (.istore 5, 2) := by decide +kernel
theorem own_dd52 : decode prog_31_method_2_code 52 = .ok (.iload 5, 2) := by decide +kernel
theorem own_dd54 : decode prog_31_method_2_code 54 = .ok (.aload_n 1, 1) := by decide +kernel
theorem own_dd55 : decode prog_31_method_2_code 55 = .ok (.arraylength, 1) := by decide +kernel
theorem own_dd56 : decode prog_31_method_2_code 56 = .ok (.if_icmp .gt 22, 3) := by decide +kernel
theorem own_dd59 : decode prog_31_method_2_code 59 = .ok (.aload 4, 2) := by decide +kernel
theorem own_dd61 : decode prog_31_method_2_code 61 = .ok (.iconst 0, 1) := by decide +kernel
theorem own_dd62 : decode prog_31_method_2_code 62 = .ok (.aaload, 1) := by decide +kernel
theorem own_dd63 : decode prog_31_method_2_code 63 = .ok (.iload 5, 2) := by decide +kernel
theorem own_dd65 : decode prog_31_method_2_code 65 = .ok (.iload 5, 2) := by decide +kernel
theorem own_dd67 : decode prog_31_method_2_code 67 = .ok (.iload_n 3, 1) := by decide +kernel
theorem own_dd68 : decode prog_31_method_2_code 68 = .ok (.invokestatic 24, 3) := by decide +kernel
theorem own_dd71 : decode prog_31_method_2_code 71 = .ok (.iastore, 1) := by decide +kernel
theorem own_dd72 : decode prog_31_method_2_code 72 = .ok (.iinc 5 1, 3) := by decide +kernel
theorem own_dd75 : decode prog_31_method_2_code 75 = .ok (.goto (-23), 3) := by decide +kernel
theorem own_dd78 : decode prog_31_method_2_code 78 = .ok (.iconst 1, 1) := by decide +kernel
theorem own_dd79 : decode prog_31_method_2_code 79 = .ok (.istore 5, 2) := by decide +kernel
theorem own_dd81 : decode prog_31_method_2_code 81 = .ok (.iload 5, 2) := by decide +kernel
theorem own_dd83 : decode prog_31_method_2_code 83 = .ok (.aload_n 0, 1) := by decide +kernel
theorem own_dd84 : decode prog_31_method_2_code 84 = .ok (.arraylength, 1) := by decide +kernel
theorem own_dd85 : decode prog_31_method_2_code 85 = .ok (.if_icmp .gt 222, 3) := by decide +kernel
theorem own_dd88 : decode prog_31_method_2_code 88 = .ok (.aload 4, 2) := by decide +kernel
theorem own_dd90 : decode prog_31_method_2_code 90 = .ok (.iload 5, 2) := by decide +kernel
theorem own_dd92 : decode prog_31_method_2_code 92 = .ok (.aload 4, 2) := by decide +kernel
theorem own_dd94 : decode prog_31_method_2_code 94 = .ok (.arraylength, 1) := by decide +kernel
theorem own_dd95 : decode prog_31_method_2_code 95 = .ok (.irem, 1) := by decide +kernel
theorem own_dd96 : decode prog_31_method_2_code 96 = .ok (.aaload, 1) := by decide +kernel
theorem own_dd97 : decode prog_31_method_2_code 97 = .ok (.astore 6, 2) := by decide +kernel
theorem own_dd99 : decode prog_31_method_2_code 99 = .ok (.aload 4, 2) := by decide +kernel
theorem own_dd101 : decode prog_31_method_2_code 101 = .ok (.iload 5, 2) := by decide +kernel
theorem own_dd103 : decode prog_31_method_2_code 103 = .ok (.iconst 1, 1) := by decide +kernel
theorem own_dd104 : decode prog_31_method_2_code 104 = .ok (.isub, 1) := by decide +kernel
theorem own_dd105 : decode prog_31_method_2_code 105 = .ok (.aload 4, 2) := by decide +kernel
theorem own_dd107 : decode prog_31_method_2_code 107 = .ok (.arraylength, 1) := by decide +kernel
theorem own_dd108 : decode prog_31_method_2_code 108 = .ok (.irem, 1) := by decide +kernel
theorem own_dd109 : decode prog_31_method_2_code 109 = .ok (.aaload, 1) := by decide +kernel
theorem own_dd110 : decode prog_31_method_2_code 110 = .ok (.astore 7, 2) := by decide +kernel
theorem own_dd112 : decode prog_31_method_2_code 112 = .ok (.iconst 1, 1) := by decide +kernel
theorem own_dd113 : decode prog_31_method_2_code 113 = .ok (.iload 5, 2) := by decide +kernel
theorem own_dd115 : decode prog_31_method_2_code 115 = .ok (.iload_n 2, 1) := by decide +kernel
theorem own_dd116 : decode prog_31_method_2_code 116 = .ok (.isub, 1) := by decide +kernel
theorem own_dd117 : decode prog_31_method_2_code 117 = .ok (.invokestatic 28, 3) := by decide +kernel
theorem own_dd120 : decode prog_31_method_2_code 120 = .ok (.istore 8, 2) := by decide +kernel
theorem own_dd122 : decode prog_31_method_2_code 122 = .ok (.aload_n 1, 1) := by decide +kernel
theorem own_dd123 : decode prog_31_method_2_code 123 = .ok (.arraylength, 1) := by decide +kernel
theorem own_dd124 : decode prog_31_method_2_code 124 = .ok (.iload 5, 2) := by decide +kernel
theorem own_dd126 : decode prog_31_method_2_code 126 = .ok (.iload_n 2, 1) := by decide +kernel
theorem own_dd127 : decode prog_31_method_2_code 127 = .ok (.iadd, 1) := by decide +kernel
theorem own_dd128 : decode prog_31_method_2_code 128 = .ok (.invokestatic 24, 3) := by decide +kernel
theorem own_dd131 : decode prog_31_method_2_code 131 = .ok (.istore 9, 2) := by decide +kernel
theorem own_dd133 : decode prog_31_method_2_code 133 = .ok (.aload 6, 2) := by decide +kernel
theorem own_dd135 : decode prog_31_method_2_code 135 = .ok (.iload 8, 2) := by decide +kernel
theorem own_dd137 : decode prog_31_method_2_code 137 = .ok (.iconst 1, 1) := by decide +kernel
theorem own_dd138 : decode prog_31_method_2_code 138 = .ok (.isub, 1) := by decide +kernel
theorem own_dd139 : decode prog_31_method_2_code 139 = .ok (.iload 8, 2) := by decide +kernel
theorem own_dd141 : decode prog_31_method_2_code 141 = .ok (.iconst 1, 1) := by decide +kernel
theorem own_dd142 : decode prog_31_method_2_code 142 = .ok (.if_icmp .ne 12, 3) := by decide +kernel
theorem own_dd145 : decode prog_31_method_2_code 145 = .ok (.iload 5, 2) := by decide +kernel
theorem own_dd147 : decode prog_31_method_2_code 147 = .ok (.iload_n 3, 1) := by decide +kernel
theorem own_dd148 : decode prog_31_method_2_code 148 = .ok (.invokestatic 24, 3) := by decide +kernel
theorem own_dd151 : decode prog_31_method_2_code 151 = .ok (.goto 4, 3) := by decide +kernel
theorem own_dd154 : decode prog_31_method_2_code 154 = .ok (.iload_n 3, 1) := by decide +kernel
theorem own_dd155 : decode prog_31_method_2_code 155 = .ok (.iastore, 1) := by decide +kernel
theorem own_dd156 : decode prog_31_method_2_code 156 = .ok (.iload 9, 2) := by decide +kernel
theorem own_dd158 : decode prog_31_method_2_code 158 = .ok (.aload_n 1, 1) := by decide +kernel
theorem own_dd159 : decode prog_31_method_2_code 159 = .ok (.arraylength, 1) := by decide +kernel
theorem own_dd160 : decode prog_31_method_2_code 160 = .ok (.if_icmp .ge 11, 3) := by decide +kernel
theorem own_dd163 : decode prog_31_method_2_code 163 = .ok (.aload 6, 2) := by decide +kernel
theorem own_dd165 : decode prog_31_method_2_code 165 = .ok (.iload 9, 2) := by decide +kernel
theorem own_dd167 : decode prog_31_method_2_code 167 = .ok (.iconst 1, 1) := by decide +kernel
theorem own_dd168 : decode prog_31_method_2_code 168 = .ok (.iadd, 1) := by decide +kernel
theorem own_dd169 : decode prog_31_method_2_code 169 = .ok (.iload_n 3, 1) := by decide +kernel
theorem own_dd170 : decode prog_31_method_2_code 170 = .ok (.iastore, 1) := by decide +kernel
theorem own_dd171 : decode prog_31_method_2_code 171 = .ok (.aload 6, 2) := by decide +kernel
theorem own_dd173 : decode prog_31_method_2_code 173 = .ok (.iload 8, 2) := by decide +kernel
theorem own_dd175 : decode prog_31_method_2_code 175 = .ok (.iconst 1, 1) := by decide +kernel
theorem own_dd176 : decode prog_31_method_2_code 176 = .ok (.isub, 1) := by decide +kernel
theorem own_dd177 : decode prog_31_method_2_code 177 = .ok (.iaload, 1) := by decide +kernel
theorem own_dd178 : decode prog_31_method_2_code 178 = .ok (.istore 10, 2) := by decide +kernel
theorem own_dd180 : decode prog_31_method_2_code 180 = .ok (.iload 8, 2) := by decide +kernel
theorem own_dd182 : decode prog_31_method_2_code 182 = .ok (.istore 11, 2) := by decide +kernel
theorem own_dd184 : decode prog_31_method_2_code 184 = .ok (.iload 11, 2) := by decide +kernel
theorem own_dd186 : decode prog_31_method_2_code 186 = .ok (.iload 9, 2) := by decide +kernel
theorem own_dd188 : decode prog_31_method_2_code 188 = .ok (.if_icmp .gt 105, 3) := by decide +kernel
theorem own_dd191 : decode prog_31_method_2_code 191 = .ok (.aload 7, 2) := by decide +kernel
theorem own_dd193 : decode prog_31_method_2_code 193 = .ok (.iload 11, 2) := by decide +kernel
theorem own_dd195 : decode prog_31_method_2_code 195 = .ok (.iconst 1, 1) := by decide +kernel
theorem own_dd196 : decode prog_31_method_2_code 196 = .ok (.isub, 1) := by decide +kernel
theorem own_dd197 : decode prog_31_method_2_code 197 = .ok (.iaload, 1) := by decide +kernel
theorem own_dd198 : decode prog_31_method_2_code 198 = .ok (.aload_n 0, 1) := by decide +kernel
theorem own_dd199 : decode prog_31_method_2_code 199 = .ok (.iload 5, 2) := by decide +kernel
theorem own_dd201 : decode prog_31_method_2_code 201 = .ok (.iconst 1, 1) := by decide +kernel
theorem own_dd202 : decode prog_31_method_2_code 202 = .ok (.isub, 1) := by decide +kernel
theorem own_dd203 : decode prog_31_method_2_code 203 = .ok (.iaload, 1) := by decide +kernel
theorem own_dd204 : decode prog_31_method_2_code 204 = .ok (.aload_n 1, 1) := by decide +kernel
theorem own_dd205 : decode prog_31_method_2_code 205 = .ok (.iload 11, 2) := by decide +kernel
theorem own_dd207 : decode prog_31_method_2_code 207 = .ok (.iconst 1, 1) := by decide +kernel
theorem own_dd208 : decode prog_31_method_2_code 208 = .ok (.isub, 1) := by decide +kernel
theorem own_dd209 : decode prog_31_method_2_code 209 = .ok (.iaload, 1) := by decide +kernel
theorem own_dd210 : decode prog_31_method_2_code 210 = .ok (.if_icmp .ne 7, 3) := by decide +kernel
theorem own_dd213 : decode prog_31_method_2_code 213 = .ok (.iconst 0, 1) := by decide +kernel
theorem own_dd214 : decode prog_31_method_2_code 214 = .ok (.goto 4, 3) := by decide +kernel
theorem own_dd217 : decode prog_31_method_2_code 217 = .ok (.iconst 1, 1) := by decide +kernel
theorem own_dd218 : decode prog_31_method_2_code 218 = .ok (.iadd, 1) := by decide +kernel
theorem own_dd219 : decode prog_31_method_2_code 219 = .ok (.istore 12, 2) := by decide +kernel
theorem own_dd221 : decode prog_31_method_2_code 221 = .ok (.iload 12, 2) := by decide +kernel
theorem own_dd223 : decode prog_31_method_2_code 223 = .ok (.aload 6, 2) := by decide +kernel
theorem own_dd225 : decode prog_31_method_2_code 225 = .ok (.iload 11, 2) := by decide +kernel
theorem own_dd227 : decode prog_31_method_2_code 227 = .ok (.iconst 1, 1) := by decide +kernel
theorem own_dd228 : decode prog_31_method_2_code 228 = .ok (.isub, 1) := by decide +kernel
theorem own_dd229 : decode prog_31_method_2_code 229 = .ok (.iaload, 1) := by decide +kernel
theorem own_dd230 : decode prog_31_method_2_code 230 = .ok (.aload 7, 2) := by decide +kernel
theorem own_dd232 : decode prog_31_method_2_code 232 = .ok (.iload 11, 2) := by decide +kernel
theorem own_dd234 : decode prog_31_method_2_code 234 = .ok (.iaload, 1) := by decide +kernel
theorem own_dd235 : decode prog_31_method_2_code 235 = .ok (.invokestatic 24, 3) := by decide +kernel
theorem own_dd238 : decode prog_31_method_2_code 238 = .ok (.iconst 1, 1) := by decide +kernel
theorem own_dd239 : decode prog_31_method_2_code 239 = .ok (.iadd, 1) := by decide +kernel
theorem own_dd240 : decode prog_31_method_2_code 240 = .ok (.invokestatic 24, 3) := by decide +kernel
theorem own_dd243 : decode prog_31_method_2_code 243 = .ok (.istore 13, 2) := by decide +kernel
theorem own_dd245 : decode prog_31_method_2_code 245 = .ok (.iload 13, 2) := by decide +kernel
theorem own_dd247 : decode prog_31_method_2_code 247 = .ok (.aload_n 0, 1) := by decide +kernel
theorem own_dd248 : decode prog_31_method_2_code 248 = .ok (.aload_n 1, 1) := by decide +kernel
theorem own_dd249 : decode prog_31_method_2_code 249 = .ok (.iload 5, 2) := by decide +kernel
theorem own_dd251 : decode prog_31_method_2_code 251 = .ok (.iload 11, 2) := by decide +kernel
theorem own_dd253 : decode prog_31_method_2_code 253 = .ok (.iload_n 2, 1) := by decide +kernel
theorem own_dd254 : decode prog_31_method_2_code 254 = .ok (.aload 4, 2) := by decide +kernel
theorem own_dd256 : decode prog_31_method_2_code 256 = .ok (.invokestatic 31, 3) := by decide +kernel
theorem own_dd259 : decode prog_31_method_2_code 259 = .ok (.invokestatic 24, 3) := by decide +kernel
theorem own_dd262 : decode prog_31_method_2_code 262 = .ok (.istore 13, 2) := by decide +kernel
theorem own_dd264 : decode prog_31_method_2_code 264 = .ok (.aload 6, 2) := by decide +kernel
theorem own_dd266 : decode prog_31_method_2_code 266 = .ok (.iload 11, 2) := by decide +kernel
theorem own_dd268 : decode prog_31_method_2_code 268 = .ok (.iload 13, 2) := by decide +kernel
theorem own_dd270 : decode prog_31_method_2_code 270 = .ok (.iload_n 3, 1) := by decide +kernel
theorem own_dd271 : decode prog_31_method_2_code 271 = .ok (.invokestatic 24, 3) := by decide +kernel
theorem own_dd274 : decode prog_31_method_2_code 274 = .ok (.iastore, 1) := by decide +kernel
theorem own_dd275 : decode prog_31_method_2_code 275 = .ok (.iload 10, 2) := by decide +kernel
theorem own_dd277 : decode prog_31_method_2_code 277 = .ok (.aload 6, 2) := by decide +kernel
theorem own_dd279 : decode prog_31_method_2_code 279 = .ok (.iload 11, 2) := by decide +kernel
theorem own_dd281 : decode prog_31_method_2_code 281 = .ok (.iaload, 1) := by decide +kernel
theorem own_dd282 : decode prog_31_method_2_code 282 = .ok (.invokestatic 24, 3) := by decide +kernel
theorem own_dd285 : decode prog_31_method_2_code 285 = .ok (.istore 10, 2) := by decide +kernel
theorem own_dd287 : decode prog_31_method_2_code 287 = .ok (.iinc 11 1, 3) := by decide +kernel
theorem own_dd290 : decode prog_31_method_2_code 290 = .ok (.goto (-106), 3) := by decide +kernel
theorem own_dd293 : decode prog_31_method_2_code 293 = .ok (.iload 10, 2) := by decide +kernel
theorem own_dd295 : decode prog_31_method_2_code 295 = .ok (.iload_n 2, 1) := by decide +kernel
theorem own_dd296 : decode prog_31_method_2_code 296 = .ok (.if_icmp .le 5, 3) := by decide +kernel
theorem own_dd299 : decode prog_31_method_2_code 299 = .ok (.iload_n 3, 1) := by decide +kernel
theorem own_dd300 : decode prog_31_method_2_code 300 = .ok (.ireturn, 1) := by decide +kernel
theorem own_dd301 : decode prog_31_method_2_code 301 = .ok (.iinc 5 1, 3) := by decide +kernel
theorem own_dd304 : decode prog_31_method_2_code 304 = .ok (.goto (-223), 3) := by decide +kernel
theorem own_dd307 : decode prog_31_method_2_code 307 = .ok (.aload 4, 2) := by decide +kernel
theorem own_dd309 : decode prog_31_method_2_code 309 = .ok (.aload_n 0, 1) := by decide +kernel
theorem own_dd310 : decode prog_31_method_2_code 310 = .ok (.arraylength, 1) := by decide +kernel
theorem own_dd311 : decode prog_31_method_2_code 311 = .ok (.aload 4, 2) := by decide +kernel
theorem own_dd313 : decode prog_31_method_2_code 313 = .ok (.arraylength, 1) := by decide +kernel
theorem own_dd314 : decode prog_31_method_2_code 314 = .ok (.irem, 1) := by decide +kernel
theorem own_dd315 : decode prog_31_method_2_code 315 = .ok (.aaload, 1) := by decide +kernel
theorem own_dd316 : decode prog_31_method_2_code 316 = .ok (.aload_n 1, 1) := by decide +kernel
theorem own_dd317 : decode prog_31_method_2_code 317 = .ok (.arraylength, 1) := by decide +kernel
theorem own_dd318 : decode prog_31_method_2_code 318 = .ok (.iaload, 1) := by decide +kernel
theorem own_dd319 : decode prog_31_method_2_code 319 = .ok (.ireturn, 1) := by decide +kernel
theorem own_dos97 {z0 : Value} {z1 : Value} {z2 : Value} {z3 : Value} {z4 : Value} {z5 : Value} {s6 : Slot} {s7 : Slot} {s8 : Slot} {s9 : Slot} {s10 : Slot} {s11 : Slot} {s12 : Slot} {s13 : Slot} {v : Addr} (h : One s6) : storeLocals #[.val z0, .val z1, .val z2, .val z3, .val z4, .val z5, s6, s7, s8, s9, s10, s11, s12, s13] 6 (.ref v) = some #[.val z0, .val z1, .val z2, .val z3, .val z4, .val z5, .val (.ref v), s7, s8, s9, s10, s11, s12, s13] := by
  rcases h with rfl | ⟨w, rfl, hw⟩
  · rfl
  · cases w <;> first | rfl | (simp [Value.category] at hw)
theorem own_dos110 {z0 : Value} {z1 : Value} {z2 : Value} {z3 : Value} {z4 : Value} {z5 : Value} {z6 : Value} {s7 : Slot} {s8 : Slot} {s9 : Slot} {s10 : Slot} {s11 : Slot} {s12 : Slot} {s13 : Slot} {v : Addr} (h : One s7) : storeLocals #[.val z0, .val z1, .val z2, .val z3, .val z4, .val z5, .val z6, s7, s8, s9, s10, s11, s12, s13] 7 (.ref v) = some #[.val z0, .val z1, .val z2, .val z3, .val z4, .val z5, .val z6, .val (.ref v), s8, s9, s10, s11, s12, s13] := by
  rcases h with rfl | ⟨w, rfl, hw⟩
  · rfl
  · cases w <;> first | rfl | (simp [Value.category] at hw)
theorem own_dos120 {z0 : Value} {z1 : Value} {z2 : Value} {z3 : Value} {z4 : Value} {z5 : Value} {z6 : Value} {z7 : Value} {s8 : Slot} {s9 : Slot} {s10 : Slot} {s11 : Slot} {s12 : Slot} {s13 : Slot} {v : Int32} (h : One s8) : storeLocals #[.val z0, .val z1, .val z2, .val z3, .val z4, .val z5, .val z6, .val z7, s8, s9, s10, s11, s12, s13] 8 (.int v) = some #[.val z0, .val z1, .val z2, .val z3, .val z4, .val z5, .val z6, .val z7, .val (.int v), s9, s10, s11, s12, s13] := by
  rcases h with rfl | ⟨w, rfl, hw⟩
  · rfl
  · cases w <;> first | rfl | (simp [Value.category] at hw)
theorem own_dos131 {z0 : Value} {z1 : Value} {z2 : Value} {z3 : Value} {z4 : Value} {z5 : Value} {z6 : Value} {z7 : Value} {z8 : Value} {s9 : Slot} {s10 : Slot} {s11 : Slot} {s12 : Slot} {s13 : Slot} {v : Int32} (h : One s9) : storeLocals #[.val z0, .val z1, .val z2, .val z3, .val z4, .val z5, .val z6, .val z7, .val z8, s9, s10, s11, s12, s13] 9 (.int v) = some #[.val z0, .val z1, .val z2, .val z3, .val z4, .val z5, .val z6, .val z7, .val z8, .val (.int v), s10, s11, s12, s13] := by
  rcases h with rfl | ⟨w, rfl, hw⟩
  · rfl
  · cases w <;> first | rfl | (simp [Value.category] at hw)
theorem own_dos178 {z0 : Value} {z1 : Value} {z2 : Value} {z3 : Value} {z4 : Value} {z5 : Value} {z6 : Value} {z7 : Value} {z8 : Value} {z9 : Value} {s10 : Slot} {s11 : Slot} {s12 : Slot} {s13 : Slot} {v : Int32} (h : One s10) : storeLocals #[.val z0, .val z1, .val z2, .val z3, .val z4, .val z5, .val z6, .val z7, .val z8, .val z9, s10, s11, s12, s13] 10 (.int v) = some #[.val z0, .val z1, .val z2, .val z3, .val z4, .val z5, .val z6, .val z7, .val z8, .val z9, .val (.int v), s11, s12, s13] := by
  rcases h with rfl | ⟨w, rfl, hw⟩
  · rfl
  · cases w <;> first | rfl | (simp [Value.category] at hw)
theorem own_dos182 {z0 : Value} {z1 : Value} {z2 : Value} {z3 : Value} {z4 : Value} {z5 : Value} {z6 : Value} {z7 : Value} {z8 : Value} {z9 : Value} {z10 : Value} {s11 : Slot} {s12 : Slot} {s13 : Slot} {v : Int32} (h : One s11) : storeLocals #[.val z0, .val z1, .val z2, .val z3, .val z4, .val z5, .val z6, .val z7, .val z8, .val z9, .val z10, s11, s12, s13] 11 (.int v) = some #[.val z0, .val z1, .val z2, .val z3, .val z4, .val z5, .val z6, .val z7, .val z8, .val z9, .val z10, .val (.int v), s12, s13] := by
  rcases h with rfl | ⟨w, rfl, hw⟩
  · rfl
  · cases w <;> first | rfl | (simp [Value.category] at hw)
theorem own_dos219 {z0 : Value} {z1 : Value} {z2 : Value} {z3 : Value} {z4 : Value} {z5 : Value} {z6 : Value} {z7 : Value} {z8 : Value} {z9 : Value} {z10 : Value} {z11 : Value} {s12 : Slot} {s13 : Slot} {v : Int32} (h : One s12) : storeLocals #[.val z0, .val z1, .val z2, .val z3, .val z4, .val z5, .val z6, .val z7, .val z8, .val z9, .val z10, .val z11, s12, s13] 12 (.int v) = some #[.val z0, .val z1, .val z2, .val z3, .val z4, .val z5, .val z6, .val z7, .val z8, .val z9, .val z10, .val z11, .val (.int v), s13] := by
  rcases h with rfl | ⟨w, rfl, hw⟩
  · rfl
  · cases w <;> first | rfl | (simp [Value.category] at hw)
theorem own_dos243 {z0 : Value} {z1 : Value} {z2 : Value} {z3 : Value} {z4 : Value} {z5 : Value} {z6 : Value} {z7 : Value} {z8 : Value} {z9 : Value} {z10 : Value} {z11 : Value} {z12 : Value} {s13 : Slot} {v : Int32} (h : One s13) : storeLocals #[.val z0, .val z1, .val z2, .val z3, .val z4, .val z5, .val z6, .val z7, .val z8, .val z9, .val z10, .val z11, .val z12, s13] 13 (.int v) = some #[.val z0, .val z1, .val z2, .val z3, .val z4, .val z5, .val z6, .val z7, .val z8, .val z9, .val z10, .val z11, .val z12, .val (.int v)] := by
  rcases h with rfl | ⟨w, rfl, hw⟩
  · rfl
  · cases w <;> first | rfl | (simp [Value.category] at hw)
abbrev own_rmD_Q (Z : State) (fa ta : Addr) (kf kt : ClassId) (a b : Nat) (f g : Nat → Int32) (mx : Nat) (h0 : Heap) : Option Value → Heap → List Loc → Prop := fun v _ L => v = some (.int (own_dist (own_E a b f g) a b mx)) ∧ Fr h0.size L
set_option maxRecDepth 65536 in
set_option maxHeartbeats 40000000 in
theorem own_rmD (l : Launch) (Z : State) (a0 : Array Value) (hw : ∀ d ∈ tables_1, d.before a0 Z = true) (fa ta : Addr) (kf kt : ClassId) (a b : Nat) (f g : Nat → Int32) (mx : Nat) (h0 : Heap) (ha : a ≤ 3) (hbb : b ≤ 3) (hm : mx ≤ 7) (VF : Arv Z h0 fa kf .int (own_I a) (own_row a f) (.int 0)) (VT : Arv Z h0 ta kt .int (own_I b) (own_row b g) (.int 0)) :
    MetFree l (⟨"com/example/keen_guess/keenguess/edit/EditDistance", "distance", "([I[II)I"⟩ : MethodName) (head1 [Jvm.Cond.code (⟨"com/example/keen_guess/keenguess/edit/EditDistance", "distance", "([I[II)I"⟩ : MethodName) prog_31_method_2_code 14 (some .int)] ({ frames := 2, cells := 10, slots := 45, locals := 37 } : Room)) (fun aa U => aa = #[(.ref fa), (.ref ta), (.int (own_I mx))] ∧ Z.Warmed39 U.vm ∧ U.heap = h0) (fun _ _ _ _ _ => True) (fun _ U o U' => ∃ v L, o = .returned v ∧ ((own_rmD_Q Z fa ta kf kt a b f g mx h0)) v U'.heap L ∧ FrameEnd U o U' L ({ frames := 2, cells := 10, slots := 45, locals := 37 } : Room).cells ({ frames := 2, cells := 10, slots := 45, locals := 37 } : Room).slots) := by
  refine goBody (y := (⟨"com/example/keen_guess/keenguess/edit/EditDistance", "distance", "([I[II)I"⟩ : MethodName)) (Q := (own_rmD_Q Z fa ta kf kt a b f g mx h0)) (plainFor_of_name (by first | (simp [plainName, overriddenIn]; done) | decide +kernel)) ?_
  intro p e s m below meth c T0 hx hZ hby hml hown hnm hret hlk X0 e0
  have hown : s.vm.findClass "com/example/keen_guess/keenguess/edit/EditDistance" = some m.cls := hown
  refine Go.cast (g' := mkF m 0 #[.val (.ref fa), .val (.ref ta), .val (.int (own_I mx)), .unset, .unset, .unset, .unset, .unset, .unset, .unset, .unset, .unset, .unset, .unset] []) (by first | (simp [entryFrame, mkF, argsToLocals, Value.category]; done) | rfl) ?_
  show Go p e below _ T0 (mkF m 0 #[.val (.ref fa), .val (.ref ta), .val (.int (own_I mx)), .unset, .unset, .unset, .unset, .unset, .unset, .unset, .unset, .unset, .unset, .unset] [])
  refine Go.of (fun _ kz => XS.iloadN X0.here hx rfl (hb hby own_dd0) rfl kz) ?_
  show Go p e below _ T0 (mkF m 1 #[.val (.ref fa), .val (.ref ta), .val (.int (own_I mx)), .unset, .unset, .unset, .unset, .unset, .unset, .unset, .unset, .unset, .unset, .unset] [(.int (own_I mx))])
  refine Go.of (fun _ kz => XS.ifYes X0.here hx rfl (pc0 := 1) (pc' := 18) rfl (hb hby own_dd1) rfl ((if0 _ _).trans (flt (own_I_pos (by omega))).2.1) (by decide) (by decide) kz) ?_
  show Go p e below _ T0 (mkF m 18 #[.val (.ref fa), .val (.ref ta), .val (.int (own_I mx)), .unset, .unset, .unset, .unset, .unset, .unset, .unset, .unset, .unset, .unset, .unset] [])
  refine Go.of (fun _ kz => XS.iloadN X0.here hx rfl (hb hby own_dd18) rfl kz) ?_
  show Go p e below _ T0 (mkF m 19 #[.val (.ref fa), .val (.ref ta), .val (.int (own_I mx)), .unset, .unset, .unset, .unset, .unset, .unset, .unset, .unset, .unset, .unset, .unset] [(.int (own_I mx))])
  refine Go.of (fun _ kz => XS.iconst X0.here hx rfl (hb hby own_dd19) kz) ?_
  show Go p e below _ T0 (mkF m 20 #[.val (.ref fa), .val (.ref ta), .val (.int (own_I mx)), .unset, .unset, .unset, .unset, .unset, .unset, .unset, .unset, .unset, .unset, .unset] [(.int (1 : Int32)), (.int (own_I mx))])
  refine Go.of (fun _ kz => XS.iadd X0.here hx rfl (hb hby own_dd20) rfl kz) ?_
  show Go p e below _ T0 (mkF m 21 #[.val (.ref fa), .val (.ref ta), .val (.int (own_I mx)), .unset, .unset, .unset, .unset, .unset, .unset, .unset, .unset, .unset, .unset, .unset] [(.int ((own_I mx) + (1 : Int32)))])
  refine Go.of (fun _ kz => XS.istoreN X0.here hx rfl (hb hby own_dd21) rfl (l' := #[.val (.ref fa), .val (.ref ta), .val (.int (own_I mx)), .val (.int ((own_I mx) + (1 : Int32))), .unset, .unset, .unset, .unset, .unset, .unset, .unset, .unset, .unset, .unset]) rfl kz) ?_
  show Go p e below _ T0 (mkF m 22 #[.val (.ref fa), .val (.ref ta), .val (.int (own_I mx)), .val (.int ((own_I mx) + (1 : Int32))), .unset, .unset, .unset, .unset, .unset, .unset, .unset, .unset, .unset, .unset] [])
  refine Go.of (fun _ kz => XS.aloadN X0.here hx rfl (hb hby own_dd22) rfl rfl kz) ?_
  show Go p e below _ T0 (mkF m 23 #[.val (.ref fa), .val (.ref ta), .val (.int (own_I mx)), .val (.int ((own_I mx) + (1 : Int32))), .unset, .unset, .unset, .unset, .unset, .unset, .unset, .unset, .unset, .unset] [(.ref fa)])
  refine Go.len X0 hx hZ e0 VF (hb hby own_dd23) ?_
  show Go p e below _ T0 (mkF m 24 #[.val (.ref fa), .val (.ref ta), .val (.int (own_I mx)), .val (.int ((own_I mx) + (1 : Int32))), .unset, .unset, .unset, .unset, .unset, .unset, .unset, .unset, .unset, .unset] [(.int (own_I a))])
  refine Go.of (fun _ kz => XS.aloadN X0.here hx rfl (hb hby own_dd24) rfl rfl kz) ?_
  show Go p e below _ T0 (mkF m 25 #[.val (.ref fa), .val (.ref ta), .val (.int (own_I mx)), .val (.int ((own_I mx) + (1 : Int32))), .unset, .unset, .unset, .unset, .unset, .unset, .unset, .unset, .unset, .unset] [(.ref ta), (.int (own_I a))])
  refine Go.len X0 hx hZ e0 VT (hb hby own_dd25) ?_
  show Go p e below _ T0 (mkF m 26 #[.val (.ref fa), .val (.ref ta), .val (.int (own_I mx)), .val (.int ((own_I mx) + (1 : Int32))), .unset, .unset, .unset, .unset, .unset, .unset, .unset, .unset, .unset, .unset] [(.int (own_I b)), (.int (own_I a))])
  refine Go.of (fun _ kz => XS.isub X0.here hx rfl (hb hby own_dd26) rfl kz) ?_
  show Go p e below _ T0 (mkF m 27 #[.val (.ref fa), .val (.ref ta), .val (.int (own_I mx)), .val (.int ((own_I mx) + (1 : Int32))), .unset, .unset, .unset, .unset, .unset, .unset, .unset, .unset, .unset, .unset] [(.int ((own_I a) - (own_I b)))])
  refine Go.callSP (W := 0) (y := (⟨"java/lang/Math", "abs", "(I)I"⟩ : MethodName)) (argsL := [(.int ((own_I a) - (own_I b)))]) (rest := []) (r := some (.int (own_abs ((own_I a) - (own_I b))))) X0 hx hZ hown (hw _ (List.mem_of_getElem? (i := 12) rfl)) (hw _ (List.mem_of_getElem? (i := 13) rfl)) (hw _ (List.mem_of_getElem? (i := 14) rfl)) (hw _ (List.mem_of_getElem? (i := 15) rfl)) (by decide) (own_rmA l Z a0 hw ((own_I a) - (own_I b)) h0) e0 (by rw [hml]; rfl) (lenOf own_dsc1 rfl) (hb hby own_dd27) rfl (Nat.le_of_eq rfl) (by decide) (by decide) (by decide) (by decide) fun T1 X1 e1 => ?_
  show Go p e below _ T1 (mkF m 30 #[.val (.ref fa), .val (.ref ta), .val (.int (own_I mx)), .val (.int ((own_I mx) + (1 : Int32))), .unset, .unset, .unset, .unset, .unset, .unset, .unset, .unset, .unset, .unset] [(.int (own_abs ((own_I a) - (own_I b))))])
  refine Go.of (fun _ kz => XS.iloadN X1.here hx rfl (hb hby own_dd30) rfl kz) ?_
  show Go p e below _ T1 (mkF m 31 #[.val (.ref fa), .val (.ref ta), .val (.int (own_I mx)), .val (.int ((own_I mx) + (1 : Int32))), .unset, .unset, .unset, .unset, .unset, .unset, .unset, .unset, .unset, .unset] [(.int (own_I mx)), (.int (own_abs ((own_I a) - (own_I b))))])
  by_cases hc31 : (own_I mx) < (own_abs ((own_I a) - (own_I b)))
  ·
    refine Go.of (fun _ kz => XS.icmpNo X1.here hx rfl (hb hby own_dd31) rfl (tlt hc31).2.2.2 kz) ?_
    show Go p e below _ T1 (mkF m 34 #[.val (.ref fa), .val (.ref ta), .val (.int (own_I mx)), .val (.int ((own_I mx) + (1 : Int32))), .unset, .unset, .unset, .unset, .unset, .unset, .unset, .unset, .unset, .unset] [])
    refine Go.of (fun _ kz => XS.iloadN X1.here hx rfl (hb hby own_dd34) rfl kz) ?_
    show Go p e below _ T1 (mkF m 35 #[.val (.ref fa), .val (.ref ta), .val (.int (own_I mx)), .val (.int ((own_I mx) + (1 : Int32))), .unset, .unset, .unset, .unset, .unset, .unset, .unset, .unset, .unset, .unset] [(.int ((own_I mx) + (1 : Int32)))])
    exact Go.retI X1 hx hlk hret (hb hby own_dd35) (by decide) (by decide) ⟨congrArg (fun z => some (Value.int z)) (show ((own_I mx) + (1 : Int32)) = own_dist (own_E a b f g) a b mx by rw [own_dist, if_pos hc31]), Fr.nil _⟩
  ·
    refine Go.of (fun _ kz => XS.icmpYes X1.here hx rfl (pc0 := 31) (pc' := 36) rfl (hb hby own_dd31) rfl (flt hc31).2.2.2 (by decide) (by decide) kz) ?_
    show Go p e below _ T1 (mkF m 36 #[.val (.ref fa), .val (.ref ta), .val (.int (own_I mx)), .val (.int ((own_I mx) + (1 : Int32))), .unset, .unset, .unset, .unset, .unset, .unset, .unset, .unset, .unset, .unset] [])
    refine Go.of (fun _ kz => XS.iloadN X1.here hx rfl (hb hby own_dd36) rfl kz) ?_
    show Go p e below _ T1 (mkF m 37 #[.val (.ref fa), .val (.ref ta), .val (.int (own_I mx)), .val (.int ((own_I mx) + (1 : Int32))), .unset, .unset, .unset, .unset, .unset, .unset, .unset, .unset, .unset, .unset] [(.int (own_I mx))])
    refine Go.of (fun _ kz => XS.iconst X1.here hx rfl (hb hby own_dd37) kz) ?_
    show Go p e below _ T1 (mkF m 38 #[.val (.ref fa), .val (.ref ta), .val (.int (own_I mx)), .val (.int ((own_I mx) + (1 : Int32))), .unset, .unset, .unset, .unset, .unset, .unset, .unset, .unset, .unset, .unset] [(.int (2 : Int32)), (.int (own_I mx))])
    refine Go.of (fun _ kz => XS.iadd X1.here hx rfl (hb hby own_dd38) rfl kz) ?_
    show Go p e below _ T1 (mkF m 39 #[.val (.ref fa), .val (.ref ta), .val (.int (own_I mx)), .val (.int ((own_I mx) + (1 : Int32))), .unset, .unset, .unset, .unset, .unset, .unset, .unset, .unset, .unset, .unset] [(.int ((own_I mx) + (2 : Int32)))])
    rw [show own_I mx + 2 = own_I (mx + 2) from own_I_add mx 2]
    show Go p e below _ T1 (mkF m 39 #[.val (.ref fa), .val (.ref ta), .val (.int (own_I mx)), .val (.int ((own_I mx) + (1 : Int32))), .unset, .unset, .unset, .unset, .unset, .unset, .unset, .unset, .unset, .unset] [(.int (own_I (mx + 2)))])
    refine Go.of (fun _ kz => XS.aloadN X1.here hx rfl (hb hby own_dd39) rfl rfl kz) ?_
    show Go p e below _ T1 (mkF m 40 #[.val (.ref fa), .val (.ref ta), .val (.int (own_I mx)), .val (.int ((own_I mx) + (1 : Int32))), .unset, .unset, .unset, .unset, .unset, .unset, .unset, .unset, .unset, .unset] [(.ref ta), (.int (own_I (mx + 2)))])
    refine Go.len X1 hx hZ e1 VT (hb hby own_dd40) ?_
    show Go p e below _ T1 (mkF m 41 #[.val (.ref fa), .val (.ref ta), .val (.int (own_I mx)), .val (.int ((own_I mx) + (1 : Int32))), .unset, .unset, .unset, .unset, .unset, .unset, .unset, .unset, .unset, .unset] [(.int (own_I b)), (.int (own_I (mx + 2)))])
    refine Go.of (fun _ kz => XS.iconst X1.here hx rfl (hb hby own_dd41) kz) ?_
    show Go p e below _ T1 (mkF m 42 #[.val (.ref fa), .val (.ref ta), .val (.int (own_I mx)), .val (.int ((own_I mx) + (1 : Int32))), .unset, .unset, .unset, .unset, .unset, .unset, .unset, .unset, .unset, .unset] [(.int (1 : Int32)), (.int (own_I b)), (.int (own_I (mx + 2)))])
    refine Go.of (fun _ kz => XS.iadd X1.here hx rfl (hb hby own_dd42) rfl kz) ?_
    show Go p e below _ T1 (mkF m 43 #[.val (.ref fa), .val (.ref ta), .val (.int (own_I mx)), .val (.int ((own_I mx) + (1 : Int32))), .unset, .unset, .unset, .unset, .unset, .unset, .unset, .unset, .unset, .unset] [(.int ((own_I b) + (1 : Int32))), (.int (own_I (mx + 2)))])
    rw [own_I_up b]
    show Go p e below _ T1 (mkF m 43 #[.val (.ref fa), .val (.ref ta), .val (.int (own_I mx)), .val (.int ((own_I mx) + (1 : Int32))), .unset, .unset, .unset, .unset, .unset, .unset, .unset, .unset, .unset, .unset] [(.int (own_I (b + 1))), (.int (own_I (mx + 2)))])
    refine Go.grid X1 hx hZ hown (hw _ (List.mem_of_getElem? (i := 16) rfl)) (hw _ (List.mem_of_getElem? (i := 17) rfl)) (hw _ (List.mem_of_getElem? (i := 4) rfl)) e1 VF VT (by omega) (by omega) (by show 0 + (1 + (mx + 2)) ≤ 10; omega) (by show 0 + _ ≤ 45; have := own_room hm hbb; omega) (hb hby own_dd43) fun T h ra kr ki hra X e' D => ?_
    rw [own_G0_0 mx] at D
    have hr1 := own_room hm hbb
    have hgap := own_gap ha hbb hm hc31
    have X := X.mono (show 0 + (1 + (mx + 2)) ≤ 10 by omega) (show 0 + ((mx + 2) + (mx + 2) * (b + 1)) ≤ 45 by omega)
    have outer : ∀ (n i : Nat) (T : State) (h : Heap) (locs : List Loc) (G : Nat → Nat → Int32) (s6 s7 s8 s9 s10 s11 s12 s13 : Slot), One s6 → One s7 → One s8 → One s9 → One s10 → One s11 → One s12 → One s13 → i + n = a + 1 → 0 < i → Stand p l e ({ frames := 2, cells := 10, slots := 45, locals := 37 } : Room) s m #[(.ref fa), (.ref ta), (.int (own_I mx))] below meth c T locs 10 45 → T.heap = h → Fr h0.size locs → Grid Z h fa ta ra kf kt kr ki a b f g (mx + 2) (b + 1) G → own_outer (own_E a b f g) a b (mx + 2) mx n i G = own_dist (own_E a b f g) a b mx → Go p e below (GoEnd s ({ frames := 2, cells := 10, slots := 45, locals := 37 } : Room).cells ({ frames := 2, cells := 10, slots := 45, locals := 37 } : Room).slots ((own_rmD_Q Z fa ta kf kt a b f g mx h0))) T (mkF m 81 #[.val (.ref fa), .val (.ref ta), .val (.int (own_I mx)), .val (.int ((own_I mx) + (1 : Int32))), .val (.ref ra), .val (.int (own_I i)), s6, s7, s8, s9, s10, s11, s12, s13] []) := by
      intro n
      induction n with
      | zero =>
        intro i T h locs G s6 s7 s8 s9 s10 s11 s12 s13 hs6 hs7 hs8 hs9 hs10 hs11 hs12 hs13 hin hi0 X e' N D hR
        show Go p e below _ T (mkF m 81 #[.val (.ref fa), .val (.ref ta), .val (.int (own_I mx)), .val (.int ((own_I mx) + (1 : Int32))), .val (.ref ra), .val (.int (own_I i)), s6, s7, s8, s9, s10, s11, s12, s13] [])
        refine Go.of (fun _ kz => XS.iload X.here hx rfl (hb hby own_dd81) rfl kz) ?_
        show Go p e below _ T (mkF m 83 #[.val (.ref fa), .val (.ref ta), .val (.int (own_I mx)), .val (.int ((own_I mx) + (1 : Int32))), .val (.ref ra), .val (.int (own_I i)), s6, s7, s8, s9, s10, s11, s12, s13] [(.int (own_I i))])
        refine Go.of (fun _ kz => XS.aloadN X.here hx rfl (hb hby own_dd83) rfl rfl kz) ?_
        show Go p e below _ T (mkF m 84 #[.val (.ref fa), .val (.ref ta), .val (.int (own_I mx)), .val (.int ((own_I mx) + (1 : Int32))), .val (.ref ra), .val (.int (own_I i)), s6, s7, s8, s9, s10, s11, s12, s13] [(.ref fa), (.int (own_I i))])
        refine Go.len X hx hZ e' D.1 (hb hby own_dd84) ?_
        show Go p e below _ T (mkF m 85 #[.val (.ref fa), .val (.ref ta), .val (.int (own_I mx)), .val (.int ((own_I mx) + (1 : Int32))), .val (.ref ra), .val (.int (own_I i)), s6, s7, s8, s9, s10, s11, s12, s13] [(.int (own_I a)), (.int (own_I i))])
        refine Go.of (fun _ kz => XS.icmpYes X.here hx rfl (pc0 := 85) (pc' := 307) rfl (hb hby own_dd85) rfl (tlt ((own_I_lt (by omega) (by omega)).mpr (by omega))).2.2.1 (by decide) (by decide) kz) ?_
        show Go p e below _ T (mkF m 307 #[.val (.ref fa), .val (.ref ta), .val (.int (own_I mx)), .val (.int ((own_I mx) + (1 : Int32))), .val (.ref ra), .val (.int (own_I i)), s6, s7, s8, s9, s10, s11, s12, s13] [])
        refine Go.of (fun _ kz => XS.aload X.here hx rfl (hb hby own_dd307) rfl rfl kz) ?_
        show Go p e below _ T (mkF m 309 #[.val (.ref fa), .val (.ref ta), .val (.int (own_I mx)), .val (.int ((own_I mx) + (1 : Int32))), .val (.ref ra), .val (.int (own_I i)), s6, s7, s8, s9, s10, s11, s12, s13] [(.ref ra)])
        refine Go.of (fun _ kz => XS.aloadN X.here hx rfl (hb hby own_dd309) rfl rfl kz) ?_
        show Go p e below _ T (mkF m 310 #[.val (.ref fa), .val (.ref ta), .val (.int (own_I mx)), .val (.int ((own_I mx) + (1 : Int32))), .val (.ref ra), .val (.int (own_I i)), s6, s7, s8, s9, s10, s11, s12, s13] [(.ref fa), (.ref ra)])
        refine Go.len X hx hZ e' D.1 (hb hby own_dd310) ?_
        show Go p e below _ T (mkF m 311 #[.val (.ref fa), .val (.ref ta), .val (.int (own_I mx)), .val (.int ((own_I mx) + (1 : Int32))), .val (.ref ra), .val (.int (own_I i)), s6, s7, s8, s9, s10, s11, s12, s13] [(.int (own_I a)), (.ref ra)])
        refine Go.of (fun _ kz => XS.aload X.here hx rfl (hb hby own_dd311) rfl rfl kz) ?_
        show Go p e below _ T (mkF m 313 #[.val (.ref fa), .val (.ref ta), .val (.int (own_I mx)), .val (.int ((own_I mx) + (1 : Int32))), .val (.ref ra), .val (.int (own_I i)), s6, s7, s8, s9, s10, s11, s12, s13] [(.ref ra), (.int (own_I a)), (.ref ra)])
        refine Go.len X hx hZ e' D.2.2.1 (hb hby own_dd313) ?_
        show Go p e below _ T (mkF m 314 #[.val (.ref fa), .val (.ref ta), .val (.int (own_I mx)), .val (.int ((own_I mx) + (1 : Int32))), .val (.ref ra), .val (.int (own_I i)), s6, s7, s8, s9, s10, s11, s12, s13] [(.int (own_I (mx + 2))), (.int (own_I a)), (.ref ra)])
        refine Go.of (fun _ kz => iremM X hx rfl (hb hby own_dd314) rfl (own_nz (by omega) (by omega)) kz) ?_
        show Go p e below _ T (mkF m 315 #[.val (.ref fa), .val (.ref ta), .val (.int (own_I mx)), .val (.int ((own_I mx) + (1 : Int32))), .val (.ref ra), .val (.int (own_I i)), s6, s7, s8, s9, s10, s11, s12, s13] [(.int ((own_I a) % (own_I (mx + 2)))), (.ref ra)])
        rw [own_I_mod (by omega) (by omega)]
        show Go p e below _ T (mkF m 315 #[.val (.ref fa), .val (.ref ta), .val (.int (own_I mx)), .val (.int ((own_I mx) + (1 : Int32))), .val (.ref ra), .val (.int (own_I i)), s6, s7, s8, s9, s10, s11, s12, s13] [(.int (own_I (a % (mx + 2)))), (.ref ra)])
        refine Go.grow X hx hZ e' D (r := (a % (mx + 2))) (Nat.mod_lt _ (by omega)) (by omega) (hb hby own_dd315) ?_
        show Go p e below _ T (mkF m 316 #[.val (.ref fa), .val (.ref ta), .val (.int (own_I mx)), .val (.int ((own_I mx) + (1 : Int32))), .val (.ref ra), .val (.int (own_I i)), s6, s7, s8, s9, s10, s11, s12, s13] [(.ref (ra + 1 + (a % (mx + 2))))])
        refine Go.of (fun _ kz => XS.aloadN X.here hx rfl (hb hby own_dd316) rfl rfl kz) ?_
        show Go p e below _ T (mkF m 317 #[.val (.ref fa), .val (.ref ta), .val (.int (own_I mx)), .val (.int ((own_I mx) + (1 : Int32))), .val (.ref ra), .val (.int (own_I i)), s6, s7, s8, s9, s10, s11, s12, s13] [(.ref ta), (.ref (ra + 1 + (a % (mx + 2))))])
        refine Go.len X hx hZ e' D.2.1 (hb hby own_dd317) ?_
        show Go p e below _ T (mkF m 318 #[.val (.ref fa), .val (.ref ta), .val (.int (own_I mx)), .val (.int ((own_I mx) + (1 : Int32))), .val (.ref ra), .val (.int (own_I i)), s6, s7, s8, s9, s10, s11, s12, s13] [(.int (own_I b)), (.ref (ra + 1 + (a % (mx + 2))))])
        refine Go.gload X hx hZ e' (D.2.2.2.1 (a % (mx + 2)) (Nat.mod_lt _ (by omega))) (i := b) (by omega) (by omega) (hb hby own_dd318) ?_
        show Go p e below _ T (mkF m 319 #[.val (.ref fa), .val (.ref ta), .val (.int (own_I mx)), .val (.int ((own_I mx) + (1 : Int32))), .val (.ref ra), .val (.int (own_I i)), s6, s7, s8, s9, s10, s11, s12, s13] [(.int (G (a % (mx + 2)) b))])
        exact Go.retI X hx hlk hret (hb hby own_dd319) (by decide) (by decide) ⟨congrArg (fun z => some (Value.int z)) hR, N⟩
      | succ n ih =>
        intro i T h locs G s6 s7 s8 s9 s10 s11 s12 s13 hs6 hs7 hs8 hs9 hs10 hs11 hs12 hs13 hin hi0 X e' N D hR
        simp only [own_outer] at hR
        show Go p e below _ T (mkF m 81 #[.val (.ref fa), .val (.ref ta), .val (.int (own_I mx)), .val (.int ((own_I mx) + (1 : Int32))), .val (.ref ra), .val (.int (own_I i)), s6, s7, s8, s9, s10, s11, s12, s13] [])
        refine Go.of (fun _ kz => XS.iload X.here hx rfl (hb hby own_dd81) rfl kz) ?_
        show Go p e below _ T (mkF m 83 #[.val (.ref fa), .val (.ref ta), .val (.int (own_I mx)), .val (.int ((own_I mx) + (1 : Int32))), .val (.ref ra), .val (.int (own_I i)), s6, s7, s8, s9, s10, s11, s12, s13] [(.int (own_I i))])
        refine Go.of (fun _ kz => XS.aloadN X.here hx rfl (hb hby own_dd83) rfl rfl kz) ?_
        show Go p e below _ T (mkF m 84 #[.val (.ref fa), .val (.ref ta), .val (.int (own_I mx)), .val (.int ((own_I mx) + (1 : Int32))), .val (.ref ra), .val (.int (own_I i)), s6, s7, s8, s9, s10, s11, s12, s13] [(.ref fa), (.int (own_I i))])
        refine Go.len X hx hZ e' D.1 (hb hby own_dd84) ?_
        show Go p e below _ T (mkF m 85 #[.val (.ref fa), .val (.ref ta), .val (.int (own_I mx)), .val (.int ((own_I mx) + (1 : Int32))), .val (.ref ra), .val (.int (own_I i)), s6, s7, s8, s9, s10, s11, s12, s13] [(.int (own_I a)), (.int (own_I i))])
        refine Go.of (fun _ kz => XS.icmpNo X.here hx rfl (hb hby own_dd85) rfl (flt (fun z => absurd ((own_I_lt (by omega) (by omega)).mp z) (by omega))).2.2.1 kz) ?_
        show Go p e below _ T (mkF m 88 #[.val (.ref fa), .val (.ref ta), .val (.int (own_I mx)), .val (.int ((own_I mx) + (1 : Int32))), .val (.ref ra), .val (.int (own_I i)), s6, s7, s8, s9, s10, s11, s12, s13] [])
        refine Go.of (fun _ kz => XS.aload X.here hx rfl (hb hby own_dd88) rfl rfl kz) ?_
        show Go p e below _ T (mkF m 90 #[.val (.ref fa), .val (.ref ta), .val (.int (own_I mx)), .val (.int ((own_I mx) + (1 : Int32))), .val (.ref ra), .val (.int (own_I i)), s6, s7, s8, s9, s10, s11, s12, s13] [(.ref ra)])
        refine Go.of (fun _ kz => XS.iload X.here hx rfl (hb hby own_dd90) rfl kz) ?_
        show Go p e below _ T (mkF m 92 #[.val (.ref fa), .val (.ref ta), .val (.int (own_I mx)), .val (.int ((own_I mx) + (1 : Int32))), .val (.ref ra), .val (.int (own_I i)), s6, s7, s8, s9, s10, s11, s12, s13] [(.int (own_I i)), (.ref ra)])
        refine Go.of (fun _ kz => XS.aload X.here hx rfl (hb hby own_dd92) rfl rfl kz) ?_
        show Go p e below _ T (mkF m 94 #[.val (.ref fa), .val (.ref ta), .val (.int (own_I mx)), .val (.int ((own_I mx) + (1 : Int32))), .val (.ref ra), .val (.int (own_I i)), s6, s7, s8, s9, s10, s11, s12, s13] [(.ref ra), (.int (own_I i)), (.ref ra)])
        refine Go.len X hx hZ e' D.2.2.1 (hb hby own_dd94) ?_
        show Go p e below _ T (mkF m 95 #[.val (.ref fa), .val (.ref ta), .val (.int (own_I mx)), .val (.int ((own_I mx) + (1 : Int32))), .val (.ref ra), .val (.int (own_I i)), s6, s7, s8, s9, s10, s11, s12, s13] [(.int (own_I (mx + 2))), (.int (own_I i)), (.ref ra)])
        refine Go.of (fun _ kz => iremM X hx rfl (hb hby own_dd95) rfl (own_nz (by omega) (by omega)) kz) ?_
        show Go p e below _ T (mkF m 96 #[.val (.ref fa), .val (.ref ta), .val (.int (own_I mx)), .val (.int ((own_I mx) + (1 : Int32))), .val (.ref ra), .val (.int (own_I i)), s6, s7, s8, s9, s10, s11, s12, s13] [(.int ((own_I i) % (own_I (mx + 2)))), (.ref ra)])
        rw [own_I_mod (by omega) (by omega)]
        show Go p e below _ T (mkF m 96 #[.val (.ref fa), .val (.ref ta), .val (.int (own_I mx)), .val (.int ((own_I mx) + (1 : Int32))), .val (.ref ra), .val (.int (own_I i)), s6, s7, s8, s9, s10, s11, s12, s13] [(.int (own_I (i % (mx + 2)))), (.ref ra)])
        refine Go.grow X hx hZ e' D (r := (i % (mx + 2))) (Nat.mod_lt _ (by omega)) (by omega) (hb hby own_dd96) ?_
        show Go p e below _ T (mkF m 97 #[.val (.ref fa), .val (.ref ta), .val (.int (own_I mx)), .val (.int ((own_I mx) + (1 : Int32))), .val (.ref ra), .val (.int (own_I i)), s6, s7, s8, s9, s10, s11, s12, s13] [(.ref (ra + 1 + (i % (mx + 2))))])
        refine Go.of (fun _ kz => XS.astore X.here hx rfl (hb hby own_dd97) rfl rfl (l' := #[.val (.ref fa), .val (.ref ta), .val (.int (own_I mx)), .val (.int ((own_I mx) + (1 : Int32))), .val (.ref ra), .val (.int (own_I i)), .val (.ref (ra + 1 + (i % (mx + 2)))), s7, s8, s9, s10, s11, s12, s13]) (own_dos97 hs6) kz) ?_
        show Go p e below _ T (mkF m 99 #[.val (.ref fa), .val (.ref ta), .val (.int (own_I mx)), .val (.int ((own_I mx) + (1 : Int32))), .val (.ref ra), .val (.int (own_I i)), .val (.ref (ra + 1 + (i % (mx + 2)))), s7, s8, s9, s10, s11, s12, s13] [])
        refine Go.of (fun _ kz => XS.aload X.here hx rfl (hb hby own_dd99) rfl rfl kz) ?_
        show Go p e below _ T (mkF m 101 #[.val (.ref fa), .val (.ref ta), .val (.int (own_I mx)), .val (.int ((own_I mx) + (1 : Int32))), .val (.ref ra), .val (.int (own_I i)), .val (.ref (ra + 1 + (i % (mx + 2)))), s7, s8, s9, s10, s11, s12, s13] [(.ref ra)])
        refine Go.of (fun _ kz => XS.iload X.here hx rfl (hb hby own_dd101) rfl kz) ?_
        show Go p e below _ T (mkF m 103 #[.val (.ref fa), .val (.ref ta), .val (.int (own_I mx)), .val (.int ((own_I mx) + (1 : Int32))), .val (.ref ra), .val (.int (own_I i)), .val (.ref (ra + 1 + (i % (mx + 2)))), s7, s8, s9, s10, s11, s12, s13] [(.int (own_I i)), (.ref ra)])
        refine Go.of (fun _ kz => XS.iconst X.here hx rfl (hb hby own_dd103) kz) ?_
        show Go p e below _ T (mkF m 104 #[.val (.ref fa), .val (.ref ta), .val (.int (own_I mx)), .val (.int ((own_I mx) + (1 : Int32))), .val (.ref ra), .val (.int (own_I i)), .val (.ref (ra + 1 + (i % (mx + 2)))), s7, s8, s9, s10, s11, s12, s13] [(.int (1 : Int32)), (.int (own_I i)), (.ref ra)])
        refine Go.of (fun _ kz => XS.isub X.here hx rfl (hb hby own_dd104) rfl kz) ?_
        show Go p e below _ T (mkF m 105 #[.val (.ref fa), .val (.ref ta), .val (.int (own_I mx)), .val (.int ((own_I mx) + (1 : Int32))), .val (.ref ra), .val (.int (own_I i)), .val (.ref (ra + 1 + (i % (mx + 2)))), s7, s8, s9, s10, s11, s12, s13] [(.int ((own_I i) - (1 : Int32))), (.ref ra)])
        rw [own_I_down hi0]
        show Go p e below _ T (mkF m 105 #[.val (.ref fa), .val (.ref ta), .val (.int (own_I mx)), .val (.int ((own_I mx) + (1 : Int32))), .val (.ref ra), .val (.int (own_I i)), .val (.ref (ra + 1 + (i % (mx + 2)))), s7, s8, s9, s10, s11, s12, s13] [(.int (own_I (i - 1))), (.ref ra)])
        refine Go.of (fun _ kz => XS.aload X.here hx rfl (hb hby own_dd105) rfl rfl kz) ?_
        show Go p e below _ T (mkF m 107 #[.val (.ref fa), .val (.ref ta), .val (.int (own_I mx)), .val (.int ((own_I mx) + (1 : Int32))), .val (.ref ra), .val (.int (own_I i)), .val (.ref (ra + 1 + (i % (mx + 2)))), s7, s8, s9, s10, s11, s12, s13] [(.ref ra), (.int (own_I (i - 1))), (.ref ra)])
        refine Go.len X hx hZ e' D.2.2.1 (hb hby own_dd107) ?_
        show Go p e below _ T (mkF m 108 #[.val (.ref fa), .val (.ref ta), .val (.int (own_I mx)), .val (.int ((own_I mx) + (1 : Int32))), .val (.ref ra), .val (.int (own_I i)), .val (.ref (ra + 1 + (i % (mx + 2)))), s7, s8, s9, s10, s11, s12, s13] [(.int (own_I (mx + 2))), (.int (own_I (i - 1))), (.ref ra)])
        refine Go.of (fun _ kz => iremM X hx rfl (hb hby own_dd108) rfl (own_nz (by omega) (by omega)) kz) ?_
        show Go p e below _ T (mkF m 109 #[.val (.ref fa), .val (.ref ta), .val (.int (own_I mx)), .val (.int ((own_I mx) + (1 : Int32))), .val (.ref ra), .val (.int (own_I i)), .val (.ref (ra + 1 + (i % (mx + 2)))), s7, s8, s9, s10, s11, s12, s13] [(.int ((own_I (i - 1)) % (own_I (mx + 2)))), (.ref ra)])
        rw [own_I_mod (by omega) (by omega)]
        show Go p e below _ T (mkF m 109 #[.val (.ref fa), .val (.ref ta), .val (.int (own_I mx)), .val (.int ((own_I mx) + (1 : Int32))), .val (.ref ra), .val (.int (own_I i)), .val (.ref (ra + 1 + (i % (mx + 2)))), s7, s8, s9, s10, s11, s12, s13] [(.int (own_I ((i - 1) % (mx + 2)))), (.ref ra)])
        refine Go.grow X hx hZ e' D (r := ((i - 1) % (mx + 2))) (Nat.mod_lt _ (by omega)) (by omega) (hb hby own_dd109) ?_
        show Go p e below _ T (mkF m 110 #[.val (.ref fa), .val (.ref ta), .val (.int (own_I mx)), .val (.int ((own_I mx) + (1 : Int32))), .val (.ref ra), .val (.int (own_I i)), .val (.ref (ra + 1 + (i % (mx + 2)))), s7, s8, s9, s10, s11, s12, s13] [(.ref (ra + 1 + ((i - 1) % (mx + 2))))])
        refine Go.of (fun _ kz => XS.astore X.here hx rfl (hb hby own_dd110) rfl rfl (l' := #[.val (.ref fa), .val (.ref ta), .val (.int (own_I mx)), .val (.int ((own_I mx) + (1 : Int32))), .val (.ref ra), .val (.int (own_I i)), .val (.ref (ra + 1 + (i % (mx + 2)))), .val (.ref (ra + 1 + ((i - 1) % (mx + 2)))), s8, s9, s10, s11, s12, s13]) (own_dos110 hs7) kz) ?_
        show Go p e below _ T (mkF m 112 #[.val (.ref fa), .val (.ref ta), .val (.int (own_I mx)), .val (.int ((own_I mx) + (1 : Int32))), .val (.ref ra), .val (.int (own_I i)), .val (.ref (ra + 1 + (i % (mx + 2)))), .val (.ref (ra + 1 + ((i - 1) % (mx + 2)))), s8, s9, s10, s11, s12, s13] [])
        refine Go.of (fun _ kz => XS.iconst X.here hx rfl (hb hby own_dd112) kz) ?_
        show Go p e below _ T (mkF m 113 #[.val (.ref fa), .val (.ref ta), .val (.int (own_I mx)), .val (.int ((own_I mx) + (1 : Int32))), .val (.ref ra), .val (.int (own_I i)), .val (.ref (ra + 1 + (i % (mx + 2)))), .val (.ref (ra + 1 + ((i - 1) % (mx + 2)))), s8, s9, s10, s11, s12, s13] [(.int (1 : Int32))])
        refine Go.of (fun _ kz => XS.iload X.here hx rfl (hb hby own_dd113) rfl kz) ?_
        show Go p e below _ T (mkF m 115 #[.val (.ref fa), .val (.ref ta), .val (.int (own_I mx)), .val (.int ((own_I mx) + (1 : Int32))), .val (.ref ra), .val (.int (own_I i)), .val (.ref (ra + 1 + (i % (mx + 2)))), .val (.ref (ra + 1 + ((i - 1) % (mx + 2)))), s8, s9, s10, s11, s12, s13] [(.int (own_I i)), (.int (1 : Int32))])
        refine Go.of (fun _ kz => XS.iloadN X.here hx rfl (hb hby own_dd115) rfl kz) ?_
        show Go p e below _ T (mkF m 116 #[.val (.ref fa), .val (.ref ta), .val (.int (own_I mx)), .val (.int ((own_I mx) + (1 : Int32))), .val (.ref ra), .val (.int (own_I i)), .val (.ref (ra + 1 + (i % (mx + 2)))), .val (.ref (ra + 1 + ((i - 1) % (mx + 2)))), s8, s9, s10, s11, s12, s13] [(.int (own_I mx)), (.int (own_I i)), (.int (1 : Int32))])
        refine Go.of (fun _ kz => XS.isub X.here hx rfl (hb hby own_dd116) rfl kz) ?_
        show Go p e below _ T (mkF m 117 #[.val (.ref fa), .val (.ref ta), .val (.int (own_I mx)), .val (.int ((own_I mx) + (1 : Int32))), .val (.ref ra), .val (.int (own_I i)), .val (.ref (ra + 1 + (i % (mx + 2)))), .val (.ref (ra + 1 + ((i - 1) % (mx + 2)))), s8, s9, s10, s11, s12, s13] [(.int ((own_I i) - (own_I mx))), (.int (1 : Int32))])
        refine Go.callSP (W := 0) (y := (⟨"java/lang/Math", "max", "(II)I"⟩ : MethodName)) (argsL := [(.int (1 : Int32)), (.int ((own_I i) - (own_I mx)))]) (rest := []) (r := some (.int (own_max (1 : Int32) ((own_I i) - (own_I mx))))) X hx hZ hown (hw _ (List.mem_of_getElem? (i := 22) rfl)) (hw _ (List.mem_of_getElem? (i := 23) rfl)) (hw _ (List.mem_of_getElem? (i := 14) rfl)) (hw _ (List.mem_of_getElem? (i := 24) rfl)) (by decide) (own_rmMax l Z a0 hw (1 : Int32) ((own_I i) - (own_I mx)) h) e' (by rw [hml]; rfl) (lenOf own_dsc2 rfl) (hb hby own_dd117) rfl (Nat.le_of_eq rfl) (by decide) (by decide) (by decide) (by decide) fun T3 X3 e3 => ?_
        show Go p e below _ T3 (mkF m 120 #[.val (.ref fa), .val (.ref ta), .val (.int (own_I mx)), .val (.int ((own_I mx) + (1 : Int32))), .val (.ref ra), .val (.int (own_I i)), .val (.ref (ra + 1 + (i % (mx + 2)))), .val (.ref (ra + 1 + ((i - 1) % (mx + 2)))), s8, s9, s10, s11, s12, s13] [(.int (own_max (1 : Int32) ((own_I i) - (own_I mx))))])
        rw [own_first hi0 (by omega) (by omega)]
        obtain ⟨fi, hfi⟩ : ∃ z, max 1 (i - mx) = z := ⟨_, rfl⟩
        rw [hfi]
        show Go p e below _ T3 (mkF m 120 #[.val (.ref fa), .val (.ref ta), .val (.int (own_I mx)), .val (.int ((own_I mx) + (1 : Int32))), .val (.ref ra), .val (.int (own_I i)), .val (.ref (ra + 1 + (i % (mx + 2)))), .val (.ref (ra + 1 + ((i - 1) % (mx + 2)))), s8, s9, s10, s11, s12, s13] [(.int (own_I fi))])
        refine Go.of (fun _ kz => XS.istore X3.here hx rfl (hb hby own_dd120) rfl (l' := #[.val (.ref fa), .val (.ref ta), .val (.int (own_I mx)), .val (.int ((own_I mx) + (1 : Int32))), .val (.ref ra), .val (.int (own_I i)), .val (.ref (ra + 1 + (i % (mx + 2)))), .val (.ref (ra + 1 + ((i - 1) % (mx + 2)))), .val (.int (own_I fi)), s9, s10, s11, s12, s13]) (own_dos120 hs8) kz) ?_
        show Go p e below _ T3 (mkF m 122 #[.val (.ref fa), .val (.ref ta), .val (.int (own_I mx)), .val (.int ((own_I mx) + (1 : Int32))), .val (.ref ra), .val (.int (own_I i)), .val (.ref (ra + 1 + (i % (mx + 2)))), .val (.ref (ra + 1 + ((i - 1) % (mx + 2)))), .val (.int (own_I fi)), s9, s10, s11, s12, s13] [])
        refine Go.of (fun _ kz => XS.aloadN X3.here hx rfl (hb hby own_dd122) rfl rfl kz) ?_
        show Go p e below _ T3 (mkF m 123 #[.val (.ref fa), .val (.ref ta), .val (.int (own_I mx)), .val (.int ((own_I mx) + (1 : Int32))), .val (.ref ra), .val (.int (own_I i)), .val (.ref (ra + 1 + (i % (mx + 2)))), .val (.ref (ra + 1 + ((i - 1) % (mx + 2)))), .val (.int (own_I fi)), s9, s10, s11, s12, s13] [(.ref ta)])
        refine Go.len X3 hx hZ e3 D.2.1 (hb hby own_dd123) ?_
        show Go p e below _ T3 (mkF m 124 #[.val (.ref fa), .val (.ref ta), .val (.int (own_I mx)), .val (.int ((own_I mx) + (1 : Int32))), .val (.ref ra), .val (.int (own_I i)), .val (.ref (ra + 1 + (i % (mx + 2)))), .val (.ref (ra + 1 + ((i - 1) % (mx + 2)))), .val (.int (own_I fi)), s9, s10, s11, s12, s13] [(.int (own_I b))])
        refine Go.of (fun _ kz => XS.iload X3.here hx rfl (hb hby own_dd124) rfl kz) ?_
        show Go p e below _ T3 (mkF m 126 #[.val (.ref fa), .val (.ref ta), .val (.int (own_I mx)), .val (.int ((own_I mx) + (1 : Int32))), .val (.ref ra), .val (.int (own_I i)), .val (.ref (ra + 1 + (i % (mx + 2)))), .val (.ref (ra + 1 + ((i - 1) % (mx + 2)))), .val (.int (own_I fi)), s9, s10, s11, s12, s13] [(.int (own_I i)), (.int (own_I b))])
        refine Go.of (fun _ kz => XS.iloadN X3.here hx rfl (hb hby own_dd126) rfl kz) ?_
        show Go p e below _ T3 (mkF m 127 #[.val (.ref fa), .val (.ref ta), .val (.int (own_I mx)), .val (.int ((own_I mx) + (1 : Int32))), .val (.ref ra), .val (.int (own_I i)), .val (.ref (ra + 1 + (i % (mx + 2)))), .val (.ref (ra + 1 + ((i - 1) % (mx + 2)))), .val (.int (own_I fi)), s9, s10, s11, s12, s13] [(.int (own_I mx)), (.int (own_I i)), (.int (own_I b))])
        refine Go.of (fun _ kz => XS.iadd X3.here hx rfl (hb hby own_dd127) rfl kz) ?_
        show Go p e below _ T3 (mkF m 128 #[.val (.ref fa), .val (.ref ta), .val (.int (own_I mx)), .val (.int ((own_I mx) + (1 : Int32))), .val (.ref ra), .val (.int (own_I i)), .val (.ref (ra + 1 + (i % (mx + 2)))), .val (.ref (ra + 1 + ((i - 1) % (mx + 2)))), .val (.int (own_I fi)), s9, s10, s11, s12, s13] [(.int ((own_I i) + (own_I mx))), (.int (own_I b))])
        refine Go.callSP (W := 0) (y := (⟨"java/lang/Math", "min", "(II)I"⟩ : MethodName)) (argsL := [(.int (own_I b)), (.int ((own_I i) + (own_I mx)))]) (rest := []) (r := some (.int (own_min (own_I b) ((own_I i) + (own_I mx))))) X3 hx hZ hown (hw _ (List.mem_of_getElem? (i := 18) rfl)) (hw _ (List.mem_of_getElem? (i := 19) rfl)) (hw _ (List.mem_of_getElem? (i := 14) rfl)) (hw _ (List.mem_of_getElem? (i := 20) rfl)) (by decide) (own_rmMin l Z a0 hw (own_I b) ((own_I i) + (own_I mx)) h) e3 (by rw [hml]; rfl) (lenOf own_dsc2 rfl) (hb hby own_dd128) rfl (Nat.le_of_eq rfl) (by decide) (by decide) (by decide) (by decide) fun T4 X4 e4 => ?_
        show Go p e below _ T4 (mkF m 131 #[.val (.ref fa), .val (.ref ta), .val (.int (own_I mx)), .val (.int ((own_I mx) + (1 : Int32))), .val (.ref ra), .val (.int (own_I i)), .val (.ref (ra + 1 + (i % (mx + 2)))), .val (.ref (ra + 1 + ((i - 1) % (mx + 2)))), .val (.int (own_I fi)), s9, s10, s11, s12, s13] [(.int (own_min (own_I b) ((own_I i) + (own_I mx))))])
        rw [own_last (by omega) (by omega)]
        obtain ⟨la, hla⟩ : ∃ z, min b (i + mx) = z := ⟨_, rfl⟩
        rw [hla]
        show Go p e below _ T4 (mkF m 131 #[.val (.ref fa), .val (.ref ta), .val (.int (own_I mx)), .val (.int ((own_I mx) + (1 : Int32))), .val (.ref ra), .val (.int (own_I i)), .val (.ref (ra + 1 + (i % (mx + 2)))), .val (.ref (ra + 1 + ((i - 1) % (mx + 2)))), .val (.int (own_I fi)), s9, s10, s11, s12, s13] [(.int (own_I la))])
        refine Go.of (fun _ kz => XS.istore X4.here hx rfl (hb hby own_dd131) rfl (l' := #[.val (.ref fa), .val (.ref ta), .val (.int (own_I mx)), .val (.int ((own_I mx) + (1 : Int32))), .val (.ref ra), .val (.int (own_I i)), .val (.ref (ra + 1 + (i % (mx + 2)))), .val (.ref (ra + 1 + ((i - 1) % (mx + 2)))), .val (.int (own_I fi)), .val (.int (own_I la)), s10, s11, s12, s13]) (own_dos131 hs9) kz) ?_
        show Go p e below _ T4 (mkF m 133 #[.val (.ref fa), .val (.ref ta), .val (.int (own_I mx)), .val (.int ((own_I mx) + (1 : Int32))), .val (.ref ra), .val (.int (own_I i)), .val (.ref (ra + 1 + (i % (mx + 2)))), .val (.ref (ra + 1 + ((i - 1) % (mx + 2)))), .val (.int (own_I fi)), .val (.int (own_I la)), s10, s11, s12, s13] [])
        refine Go.of (fun _ kz => XS.aload X4.here hx rfl (hb hby own_dd133) rfl rfl kz) ?_
        show Go p e below _ T4 (mkF m 135 #[.val (.ref fa), .val (.ref ta), .val (.int (own_I mx)), .val (.int ((own_I mx) + (1 : Int32))), .val (.ref ra), .val (.int (own_I i)), .val (.ref (ra + 1 + (i % (mx + 2)))), .val (.ref (ra + 1 + ((i - 1) % (mx + 2)))), .val (.int (own_I fi)), .val (.int (own_I la)), s10, s11, s12, s13] [(.ref (ra + 1 + (i % (mx + 2))))])
        refine Go.of (fun _ kz => XS.iload X4.here hx rfl (hb hby own_dd135) rfl kz) ?_
        show Go p e below _ T4 (mkF m 137 #[.val (.ref fa), .val (.ref ta), .val (.int (own_I mx)), .val (.int ((own_I mx) + (1 : Int32))), .val (.ref ra), .val (.int (own_I i)), .val (.ref (ra + 1 + (i % (mx + 2)))), .val (.ref (ra + 1 + ((i - 1) % (mx + 2)))), .val (.int (own_I fi)), .val (.int (own_I la)), s10, s11, s12, s13] [(.int (own_I fi)), (.ref (ra + 1 + (i % (mx + 2))))])
        refine Go.of (fun _ kz => XS.iconst X4.here hx rfl (hb hby own_dd137) kz) ?_
        show Go p e below _ T4 (mkF m 138 #[.val (.ref fa), .val (.ref ta), .val (.int (own_I mx)), .val (.int ((own_I mx) + (1 : Int32))), .val (.ref ra), .val (.int (own_I i)), .val (.ref (ra + 1 + (i % (mx + 2)))), .val (.ref (ra + 1 + ((i - 1) % (mx + 2)))), .val (.int (own_I fi)), .val (.int (own_I la)), s10, s11, s12, s13] [(.int (1 : Int32)), (.int (own_I fi)), (.ref (ra + 1 + (i % (mx + 2))))])
        refine Go.of (fun _ kz => XS.isub X4.here hx rfl (hb hby own_dd138) rfl kz) ?_
        show Go p e below _ T4 (mkF m 139 #[.val (.ref fa), .val (.ref ta), .val (.int (own_I mx)), .val (.int ((own_I mx) + (1 : Int32))), .val (.ref ra), .val (.int (own_I i)), .val (.ref (ra + 1 + (i % (mx + 2)))), .val (.ref (ra + 1 + ((i - 1) % (mx + 2)))), .val (.int (own_I fi)), .val (.int (own_I la)), s10, s11, s12, s13] [(.int ((own_I fi) - (1 : Int32))), (.ref (ra + 1 + (i % (mx + 2))))])
        rw [own_I_down (by omega)]
        show Go p e below _ T4 (mkF m 139 #[.val (.ref fa), .val (.ref ta), .val (.int (own_I mx)), .val (.int ((own_I mx) + (1 : Int32))), .val (.ref ra), .val (.int (own_I i)), .val (.ref (ra + 1 + (i % (mx + 2)))), .val (.ref (ra + 1 + ((i - 1) % (mx + 2)))), .val (.int (own_I fi)), .val (.int (own_I la)), s10, s11, s12, s13] [(.int (own_I (fi - 1))), (.ref (ra + 1 + (i % (mx + 2))))])
        refine Go.of (fun _ kz => XS.iload X4.here hx rfl (hb hby own_dd139) rfl kz) ?_
        show Go p e below _ T4 (mkF m 141 #[.val (.ref fa), .val (.ref ta), .val (.int (own_I mx)), .val (.int ((own_I mx) + (1 : Int32))), .val (.ref ra), .val (.int (own_I i)), .val (.ref (ra + 1 + (i % (mx + 2)))), .val (.ref (ra + 1 + ((i - 1) % (mx + 2)))), .val (.int (own_I fi)), .val (.int (own_I la)), s10, s11, s12, s13] [(.int (own_I fi)), (.int (own_I (fi - 1))), (.ref (ra + 1 + (i % (mx + 2))))])
        refine Go.of (fun _ kz => XS.iconst X4.here hx rfl (hb hby own_dd141) kz) ?_
        show Go p e below _ T4 (mkF m 142 #[.val (.ref fa), .val (.ref ta), .val (.int (own_I mx)), .val (.int ((own_I mx) + (1 : Int32))), .val (.ref ra), .val (.int (own_I i)), .val (.ref (ra + 1 + (i % (mx + 2)))), .val (.ref (ra + 1 + ((i - 1) % (mx + 2)))), .val (.int (own_I fi)), .val (.int (own_I la)), s10, s11, s12, s13] [(.int (1 : Int32)), (.int (own_I fi)), (.int (own_I (fi - 1))), (.ref (ra + 1 + (i % (mx + 2))))])
        suffices km142 : ∀ (ev : Int32) (T5 : State), ev = (if (own_I fi) = (1 : Int32) then (own_min (own_I i) ((own_I mx) + (1 : Int32))) else ((own_I mx) + (1 : Int32))) → Stand p l e ({ frames := 2, cells := 10, slots := 45, locals := 37 } : Room) s m #[(.ref fa), (.ref ta), (.int (own_I mx))] below meth c T5 locs 10 45 → T5.heap = h → Go p e below (GoEnd s ({ frames := 2, cells := 10, slots := 45, locals := 37 } : Room).cells ({ frames := 2, cells := 10, slots := 45, locals := 37 } : Room).slots ((own_rmD_Q Z fa ta kf kt a b f g mx h0))) T5 (mkF m 155 #[.val (.ref fa), .val (.ref ta), .val (.int (own_I mx)), .val (.int ((own_I mx) + (1 : Int32))), .val (.ref ra), .val (.int (own_I i)), .val (.ref (ra + 1 + (i % (mx + 2)))), .val (.ref (ra + 1 + ((i - 1) % (mx + 2)))), .val (.int (own_I fi)), .val (.int (own_I la)), s10, s11, s12, s13] [(.int ev), (.int (own_I (fi - 1))), (.ref (ra + 1 + (i % (mx + 2))))]) by
          by_cases hc142 : (own_I fi) = (1 : Int32)
          ·
            refine Go.of (fun _ kz => XS.icmpNo X4.here hx rfl (hb hby own_dd142) rfl (teq hc142).2 kz) ?_
            show Go p e below _ T4 (mkF m 145 #[.val (.ref fa), .val (.ref ta), .val (.int (own_I mx)), .val (.int ((own_I mx) + (1 : Int32))), .val (.ref ra), .val (.int (own_I i)), .val (.ref (ra + 1 + (i % (mx + 2)))), .val (.ref (ra + 1 + ((i - 1) % (mx + 2)))), .val (.int (own_I fi)), .val (.int (own_I la)), s10, s11, s12, s13] [(.int (own_I (fi - 1))), (.ref (ra + 1 + (i % (mx + 2))))])
            refine Go.of (fun _ kz => XS.iload X4.here hx rfl (hb hby own_dd145) rfl kz) ?_
            show Go p e below _ T4 (mkF m 147 #[.val (.ref fa), .val (.ref ta), .val (.int (own_I mx)), .val (.int ((own_I mx) + (1 : Int32))), .val (.ref ra), .val (.int (own_I i)), .val (.ref (ra + 1 + (i % (mx + 2)))), .val (.ref (ra + 1 + ((i - 1) % (mx + 2)))), .val (.int (own_I fi)), .val (.int (own_I la)), s10, s11, s12, s13] [(.int (own_I i)), (.int (own_I (fi - 1))), (.ref (ra + 1 + (i % (mx + 2))))])
            refine Go.of (fun _ kz => XS.iloadN X4.here hx rfl (hb hby own_dd147) rfl kz) ?_
            show Go p e below _ T4 (mkF m 148 #[.val (.ref fa), .val (.ref ta), .val (.int (own_I mx)), .val (.int ((own_I mx) + (1 : Int32))), .val (.ref ra), .val (.int (own_I i)), .val (.ref (ra + 1 + (i % (mx + 2)))), .val (.ref (ra + 1 + ((i - 1) % (mx + 2)))), .val (.int (own_I fi)), .val (.int (own_I la)), s10, s11, s12, s13] [(.int ((own_I mx) + (1 : Int32))), (.int (own_I i)), (.int (own_I (fi - 1))), (.ref (ra + 1 + (i % (mx + 2))))])
            refine Go.callSP (W := 2) (y := (⟨"java/lang/Math", "min", "(II)I"⟩ : MethodName)) (argsL := [(.int (own_I i)), (.int ((own_I mx) + (1 : Int32)))]) (rest := [(.int (own_I (fi - 1))), (.ref (ra + 1 + (i % (mx + 2))))]) (r := some (.int (own_min (own_I i) ((own_I mx) + (1 : Int32))))) X4 hx hZ hown (hw _ (List.mem_of_getElem? (i := 18) rfl)) (hw _ (List.mem_of_getElem? (i := 19) rfl)) (hw _ (List.mem_of_getElem? (i := 14) rfl)) (hw _ (List.mem_of_getElem? (i := 20) rfl)) (by decide) (own_rmMin l Z a0 hw (own_I i) ((own_I mx) + (1 : Int32)) h) e4 (by rw [hml]; rfl) (lenOf own_dsc2 rfl) (hb hby own_dd148) rfl (Nat.le_of_eq rfl) (by decide) (by decide) (by decide) (by decide) fun T6 X6 e6 => ?_
            show Go p e below _ T6 (mkF m 151 #[.val (.ref fa), .val (.ref ta), .val (.int (own_I mx)), .val (.int ((own_I mx) + (1 : Int32))), .val (.ref ra), .val (.int (own_I i)), .val (.ref (ra + 1 + (i % (mx + 2)))), .val (.ref (ra + 1 + ((i - 1) % (mx + 2)))), .val (.int (own_I fi)), .val (.int (own_I la)), s10, s11, s12, s13] [(.int (own_min (own_I i) ((own_I mx) + (1 : Int32)))), (.int (own_I (fi - 1))), (.ref (ra + 1 + (i % (mx + 2))))])
            refine Go.of (fun _ kz => XS.goto X6.here hx rfl (pc0 := 151) (pc' := 155) rfl (hb hby own_dd151) (by decide) (by decide) kz) ?_
            show Go p e below _ T6 (mkF m 155 #[.val (.ref fa), .val (.ref ta), .val (.int (own_I mx)), .val (.int ((own_I mx) + (1 : Int32))), .val (.ref ra), .val (.int (own_I i)), .val (.ref (ra + 1 + (i % (mx + 2)))), .val (.ref (ra + 1 + ((i - 1) % (mx + 2)))), .val (.int (own_I fi)), .val (.int (own_I la)), s10, s11, s12, s13] [(.int (own_min (own_I i) ((own_I mx) + (1 : Int32)))), (.int (own_I (fi - 1))), (.ref (ra + 1 + (i % (mx + 2))))])
            exact km142 _ _ (if_pos hc142).symm X6 e6
          ·
            refine Go.of (fun _ kz => XS.icmpYes X4.here hx rfl (pc0 := 142) (pc' := 154) rfl (hb hby own_dd142) rfl (feq hc142).2 (by decide) (by decide) kz) ?_
            show Go p e below _ T4 (mkF m 154 #[.val (.ref fa), .val (.ref ta), .val (.int (own_I mx)), .val (.int ((own_I mx) + (1 : Int32))), .val (.ref ra), .val (.int (own_I i)), .val (.ref (ra + 1 + (i % (mx + 2)))), .val (.ref (ra + 1 + ((i - 1) % (mx + 2)))), .val (.int (own_I fi)), .val (.int (own_I la)), s10, s11, s12, s13] [(.int (own_I (fi - 1))), (.ref (ra + 1 + (i % (mx + 2))))])
            refine Go.of (fun _ kz => XS.iloadN X4.here hx rfl (hb hby own_dd154) rfl kz) ?_
            show Go p e below _ T4 (mkF m 155 #[.val (.ref fa), .val (.ref ta), .val (.int (own_I mx)), .val (.int ((own_I mx) + (1 : Int32))), .val (.ref ra), .val (.int (own_I i)), .val (.ref (ra + 1 + (i % (mx + 2)))), .val (.ref (ra + 1 + ((i - 1) % (mx + 2)))), .val (.int (own_I fi)), .val (.int (own_I la)), s10, s11, s12, s13] [(.int ((own_I mx) + (1 : Int32))), (.int (own_I (fi - 1))), (.ref (ra + 1 + (i % (mx + 2))))])
            exact km142 _ _ (if_neg hc142).symm X4 e4
        intro ev T5 hu_ev X5 e5
        show Go p e below _ T5 (mkF m 155 #[.val (.ref fa), .val (.ref ta), .val (.int (own_I mx)), .val (.int ((own_I mx) + (1 : Int32))), .val (.ref ra), .val (.int (own_I i)), .val (.ref (ra + 1 + (i % (mx + 2)))), .val (.ref (ra + 1 + ((i - 1) % (mx + 2)))), .val (.int (own_I fi)), .val (.int (own_I la)), s10, s11, s12, s13] [(.int ev), (.int (own_I (fi - 1))), (.ref (ra + 1 + (i % (mx + 2))))])
        refine Go.gstore X5 hx hZ e5 D (r := (i % (mx + 2))) (i := (fi - 1)) (Nat.mod_lt _ (by omega)) (by omega) (by omega) (Nat.le_of_eq hra.symm) N (hb hby own_dd155) fun T7 h7 locs7 X7 e7 N7 D7 => ?_
        show Go p e below _ T7 (mkF m 156 #[.val (.ref fa), .val (.ref ta), .val (.int (own_I mx)), .val (.int ((own_I mx) + (1 : Int32))), .val (.ref ra), .val (.int (own_I i)), .val (.ref (ra + 1 + (i % (mx + 2)))), .val (.ref (ra + 1 + ((i - 1) % (mx + 2)))), .val (.int (own_I fi)), .val (.int (own_I la)), s10, s11, s12, s13] [])
        have hE1 : (own_upd G (i % (mx + 2)) (fi - 1) ev) = own_upd G (i % (mx + 2)) (max 1 (i - mx) - 1) (if max 1 (i - mx) = 1 then own_min (own_I i) (own_I mx + 1) else own_I mx + 1) := by
          rw [hfi, hu_ev]
          by_cases q : fi = 1
          · rw [if_pos q, if_pos (by rw [q]; rfl)]
          · rw [if_neg q, if_neg (show ¬ own_I fi = (1 : Int32) from fun z => q ((own_I_eq (k := 1) (by omega) (by omega)).mp z))]
        suffices k171 : ∀ (T' : State) (h' : Heap) (locs' : List Loc), Stand p l e ({ frames := 2, cells := 10, slots := 45, locals := 37 } : Room) s m #[(.ref fa), (.ref ta), (.int (own_I mx))] below meth c T' locs' 10 45 → T'.heap = h' → Fr h0.size locs' → Grid Z h' fa ta ra kf kt kr ki a b f g (mx + 2) (b + 1) (own_edge b (mx + 2) mx i G) → Go p e below (GoEnd s ({ frames := 2, cells := 10, slots := 45, locals := 37 } : Room).cells ({ frames := 2, cells := 10, slots := 45, locals := 37 } : Room).slots ((own_rmD_Q Z fa ta kf kt a b f g mx h0))) T' (mkF m 171 #[.val (.ref fa), .val (.ref ta), .val (.int (own_I mx)), .val (.int ((own_I mx) + (1 : Int32))), .val (.ref ra), .val (.int (own_I i)), .val (.ref (ra + 1 + (i % (mx + 2)))), .val (.ref (ra + 1 + ((i - 1) % (mx + 2)))), .val (.int (own_I fi)), .val (.int (own_I la)), s10, s11, s12, s13] []) by
          show Go p e below _ T7 (mkF m 156 #[.val (.ref fa), .val (.ref ta), .val (.int (own_I mx)), .val (.int ((own_I mx) + (1 : Int32))), .val (.ref ra), .val (.int (own_I i)), .val (.ref (ra + 1 + (i % (mx + 2)))), .val (.ref (ra + 1 + ((i - 1) % (mx + 2)))), .val (.int (own_I fi)), .val (.int (own_I la)), s10, s11, s12, s13] [])
          refine Go.of (fun _ kz => XS.iload X7.here hx rfl (hb hby own_dd156) rfl kz) ?_
          show Go p e below _ T7 (mkF m 158 #[.val (.ref fa), .val (.ref ta), .val (.int (own_I mx)), .val (.int ((own_I mx) + (1 : Int32))), .val (.ref ra), .val (.int (own_I i)), .val (.ref (ra + 1 + (i % (mx + 2)))), .val (.ref (ra + 1 + ((i - 1) % (mx + 2)))), .val (.int (own_I fi)), .val (.int (own_I la)), s10, s11, s12, s13] [(.int (own_I la))])
          refine Go.of (fun _ kz => XS.aloadN X7.here hx rfl (hb hby own_dd158) rfl rfl kz) ?_
          show Go p e below _ T7 (mkF m 159 #[.val (.ref fa), .val (.ref ta), .val (.int (own_I mx)), .val (.int ((own_I mx) + (1 : Int32))), .val (.ref ra), .val (.int (own_I i)), .val (.ref (ra + 1 + (i % (mx + 2)))), .val (.ref (ra + 1 + ((i - 1) % (mx + 2)))), .val (.int (own_I fi)), .val (.int (own_I la)), s10, s11, s12, s13] [(.ref ta), (.int (own_I la))])
          refine Go.len X7 hx hZ e7 D7.2.1 (hb hby own_dd159) ?_
          show Go p e below _ T7 (mkF m 160 #[.val (.ref fa), .val (.ref ta), .val (.int (own_I mx)), .val (.int ((own_I mx) + (1 : Int32))), .val (.ref ra), .val (.int (own_I i)), .val (.ref (ra + 1 + (i % (mx + 2)))), .val (.ref (ra + 1 + ((i - 1) % (mx + 2)))), .val (.int (own_I fi)), .val (.int (own_I la)), s10, s11, s12, s13] [(.int (own_I b)), (.int (own_I la))])
          by_cases hc160 : (own_I la) < (own_I b)
          ·
            refine Go.of (fun _ kz => XS.icmpNo X7.here hx rfl (hb hby own_dd160) rfl (tlt hc160).2.1 kz) ?_
            show Go p e below _ T7 (mkF m 163 #[.val (.ref fa), .val (.ref ta), .val (.int (own_I mx)), .val (.int ((own_I mx) + (1 : Int32))), .val (.ref ra), .val (.int (own_I i)), .val (.ref (ra + 1 + (i % (mx + 2)))), .val (.ref (ra + 1 + ((i - 1) % (mx + 2)))), .val (.int (own_I fi)), .val (.int (own_I la)), s10, s11, s12, s13] [])
            refine Go.of (fun _ kz => XS.aload X7.here hx rfl (hb hby own_dd163) rfl rfl kz) ?_
            show Go p e below _ T7 (mkF m 165 #[.val (.ref fa), .val (.ref ta), .val (.int (own_I mx)), .val (.int ((own_I mx) + (1 : Int32))), .val (.ref ra), .val (.int (own_I i)), .val (.ref (ra + 1 + (i % (mx + 2)))), .val (.ref (ra + 1 + ((i - 1) % (mx + 2)))), .val (.int (own_I fi)), .val (.int (own_I la)), s10, s11, s12, s13] [(.ref (ra + 1 + (i % (mx + 2))))])
            refine Go.of (fun _ kz => XS.iload X7.here hx rfl (hb hby own_dd165) rfl kz) ?_
            show Go p e below _ T7 (mkF m 167 #[.val (.ref fa), .val (.ref ta), .val (.int (own_I mx)), .val (.int ((own_I mx) + (1 : Int32))), .val (.ref ra), .val (.int (own_I i)), .val (.ref (ra + 1 + (i % (mx + 2)))), .val (.ref (ra + 1 + ((i - 1) % (mx + 2)))), .val (.int (own_I fi)), .val (.int (own_I la)), s10, s11, s12, s13] [(.int (own_I la)), (.ref (ra + 1 + (i % (mx + 2))))])
            refine Go.of (fun _ kz => XS.iconst X7.here hx rfl (hb hby own_dd167) kz) ?_
            show Go p e below _ T7 (mkF m 168 #[.val (.ref fa), .val (.ref ta), .val (.int (own_I mx)), .val (.int ((own_I mx) + (1 : Int32))), .val (.ref ra), .val (.int (own_I i)), .val (.ref (ra + 1 + (i % (mx + 2)))), .val (.ref (ra + 1 + ((i - 1) % (mx + 2)))), .val (.int (own_I fi)), .val (.int (own_I la)), s10, s11, s12, s13] [(.int (1 : Int32)), (.int (own_I la)), (.ref (ra + 1 + (i % (mx + 2))))])
            refine Go.of (fun _ kz => XS.iadd X7.here hx rfl (hb hby own_dd168) rfl kz) ?_
            show Go p e below _ T7 (mkF m 169 #[.val (.ref fa), .val (.ref ta), .val (.int (own_I mx)), .val (.int ((own_I mx) + (1 : Int32))), .val (.ref ra), .val (.int (own_I i)), .val (.ref (ra + 1 + (i % (mx + 2)))), .val (.ref (ra + 1 + ((i - 1) % (mx + 2)))), .val (.int (own_I fi)), .val (.int (own_I la)), s10, s11, s12, s13] [(.int ((own_I la) + (1 : Int32))), (.ref (ra + 1 + (i % (mx + 2))))])
            rw [own_I_up la]
            show Go p e below _ T7 (mkF m 169 #[.val (.ref fa), .val (.ref ta), .val (.int (own_I mx)), .val (.int ((own_I mx) + (1 : Int32))), .val (.ref ra), .val (.int (own_I i)), .val (.ref (ra + 1 + (i % (mx + 2)))), .val (.ref (ra + 1 + ((i - 1) % (mx + 2)))), .val (.int (own_I fi)), .val (.int (own_I la)), s10, s11, s12, s13] [(.int (own_I (la + 1))), (.ref (ra + 1 + (i % (mx + 2))))])
            refine Go.of (fun _ kz => XS.iloadN X7.here hx rfl (hb hby own_dd169) rfl kz) ?_
            show Go p e below _ T7 (mkF m 170 #[.val (.ref fa), .val (.ref ta), .val (.int (own_I mx)), .val (.int ((own_I mx) + (1 : Int32))), .val (.ref ra), .val (.int (own_I i)), .val (.ref (ra + 1 + (i % (mx + 2)))), .val (.ref (ra + 1 + ((i - 1) % (mx + 2)))), .val (.int (own_I fi)), .val (.int (own_I la)), s10, s11, s12, s13] [(.int ((own_I mx) + (1 : Int32))), (.int (own_I (la + 1))), (.ref (ra + 1 + (i % (mx + 2))))])
            refine Go.gstore X7 hx hZ e7 D7 (r := (i % (mx + 2))) (i := (la + 1)) (Nat.mod_lt _ (by omega)) (by have := (own_I_lt (by omega) (by omega)).mp hc160; omega) (by omega) (Nat.le_of_eq hra.symm) N7 (hb hby own_dd170) fun T8 h8 locs8 X8 e8 N8 D8 => ?_
            show Go p e below _ T8 (mkF m 171 #[.val (.ref fa), .val (.ref ta), .val (.int (own_I mx)), .val (.int ((own_I mx) + (1 : Int32))), .val (.ref ra), .val (.int (own_I i)), .val (.ref (ra + 1 + (i % (mx + 2)))), .val (.ref (ra + 1 + ((i - 1) % (mx + 2)))), .val (.int (own_I fi)), .val (.int (own_I la)), s10, s11, s12, s13] [])
            exact k171 T8 h8 _ X8 e8 N8 (by have q := D8; rw [hE1] at q; rw [own_edge]; simp only [hla]; rw [if_pos ((own_I_lt (by omega) (by omega)).mp hc160)]; exact q)
          ·
            refine Go.of (fun _ kz => XS.icmpYes X7.here hx rfl (pc0 := 160) (pc' := 171) rfl (hb hby own_dd160) rfl (flt hc160).2.1 (by decide) (by decide) kz) ?_
            show Go p e below _ T7 (mkF m 171 #[.val (.ref fa), .val (.ref ta), .val (.int (own_I mx)), .val (.int ((own_I mx) + (1 : Int32))), .val (.ref ra), .val (.int (own_I i)), .val (.ref (ra + 1 + (i % (mx + 2)))), .val (.ref (ra + 1 + ((i - 1) % (mx + 2)))), .val (.int (own_I fi)), .val (.int (own_I la)), s10, s11, s12, s13] [])
            exact k171 T7 h7 _ X7 e7 N7 (by have q := D7; rw [hE1] at q; rw [own_edge]; simp only [hla]; rw [if_neg (fun z => hc160 ((own_I_lt (by omega) (by omega)).mpr z))]; exact q)
        intro T' h' locs' X' e'' N' D'
        show Go p e below _ T' (mkF m 171 #[.val (.ref fa), .val (.ref ta), .val (.int (own_I mx)), .val (.int ((own_I mx) + (1 : Int32))), .val (.ref ra), .val (.int (own_I i)), .val (.ref (ra + 1 + (i % (mx + 2)))), .val (.ref (ra + 1 + ((i - 1) % (mx + 2)))), .val (.int (own_I fi)), .val (.int (own_I la)), s10, s11, s12, s13] [])
        refine Go.of (fun _ kz => XS.aload X'.here hx rfl (hb hby own_dd171) rfl rfl kz) ?_
        show Go p e below _ T' (mkF m 173 #[.val (.ref fa), .val (.ref ta), .val (.int (own_I mx)), .val (.int ((own_I mx) + (1 : Int32))), .val (.ref ra), .val (.int (own_I i)), .val (.ref (ra + 1 + (i % (mx + 2)))), .val (.ref (ra + 1 + ((i - 1) % (mx + 2)))), .val (.int (own_I fi)), .val (.int (own_I la)), s10, s11, s12, s13] [(.ref (ra + 1 + (i % (mx + 2))))])
        refine Go.of (fun _ kz => XS.iload X'.here hx rfl (hb hby own_dd173) rfl kz) ?_
        show Go p e below _ T' (mkF m 175 #[.val (.ref fa), .val (.ref ta), .val (.int (own_I mx)), .val (.int ((own_I mx) + (1 : Int32))), .val (.ref ra), .val (.int (own_I i)), .val (.ref (ra + 1 + (i % (mx + 2)))), .val (.ref (ra + 1 + ((i - 1) % (mx + 2)))), .val (.int (own_I fi)), .val (.int (own_I la)), s10, s11, s12, s13] [(.int (own_I fi)), (.ref (ra + 1 + (i % (mx + 2))))])
        refine Go.of (fun _ kz => XS.iconst X'.here hx rfl (hb hby own_dd175) kz) ?_
        show Go p e below _ T' (mkF m 176 #[.val (.ref fa), .val (.ref ta), .val (.int (own_I mx)), .val (.int ((own_I mx) + (1 : Int32))), .val (.ref ra), .val (.int (own_I i)), .val (.ref (ra + 1 + (i % (mx + 2)))), .val (.ref (ra + 1 + ((i - 1) % (mx + 2)))), .val (.int (own_I fi)), .val (.int (own_I la)), s10, s11, s12, s13] [(.int (1 : Int32)), (.int (own_I fi)), (.ref (ra + 1 + (i % (mx + 2))))])
        refine Go.of (fun _ kz => XS.isub X'.here hx rfl (hb hby own_dd176) rfl kz) ?_
        show Go p e below _ T' (mkF m 177 #[.val (.ref fa), .val (.ref ta), .val (.int (own_I mx)), .val (.int ((own_I mx) + (1 : Int32))), .val (.ref ra), .val (.int (own_I i)), .val (.ref (ra + 1 + (i % (mx + 2)))), .val (.ref (ra + 1 + ((i - 1) % (mx + 2)))), .val (.int (own_I fi)), .val (.int (own_I la)), s10, s11, s12, s13] [(.int ((own_I fi) - (1 : Int32))), (.ref (ra + 1 + (i % (mx + 2))))])
        rw [own_I_down (by omega)]
        show Go p e below _ T' (mkF m 177 #[.val (.ref fa), .val (.ref ta), .val (.int (own_I mx)), .val (.int ((own_I mx) + (1 : Int32))), .val (.ref ra), .val (.int (own_I i)), .val (.ref (ra + 1 + (i % (mx + 2)))), .val (.ref (ra + 1 + ((i - 1) % (mx + 2)))), .val (.int (own_I fi)), .val (.int (own_I la)), s10, s11, s12, s13] [(.int (own_I (fi - 1))), (.ref (ra + 1 + (i % (mx + 2))))])
        refine Go.gload X' hx hZ e'' (D'.2.2.2.1 (i % (mx + 2)) (Nat.mod_lt _ (by omega))) (i := (fi - 1)) (by omega) (by omega) (hb hby own_dd177) ?_
        show Go p e below _ T' (mkF m 178 #[.val (.ref fa), .val (.ref ta), .val (.int (own_I mx)), .val (.int ((own_I mx) + (1 : Int32))), .val (.ref ra), .val (.int (own_I i)), .val (.ref (ra + 1 + (i % (mx + 2)))), .val (.ref (ra + 1 + ((i - 1) % (mx + 2)))), .val (.int (own_I fi)), .val (.int (own_I la)), s10, s11, s12, s13] [(.int ((own_edge b (mx + 2) mx i G) (i % (mx + 2)) (fi - 1)))])
        refine Go.of (fun _ kz => XS.istore X'.here hx rfl (hb hby own_dd178) rfl (l' := #[.val (.ref fa), .val (.ref ta), .val (.int (own_I mx)), .val (.int ((own_I mx) + (1 : Int32))), .val (.ref ra), .val (.int (own_I i)), .val (.ref (ra + 1 + (i % (mx + 2)))), .val (.ref (ra + 1 + ((i - 1) % (mx + 2)))), .val (.int (own_I fi)), .val (.int (own_I la)), .val (.int ((own_edge b (mx + 2) mx i G) (i % (mx + 2)) (fi - 1))), s11, s12, s13]) (own_dos178 hs10) kz) ?_
        show Go p e below _ T' (mkF m 180 #[.val (.ref fa), .val (.ref ta), .val (.int (own_I mx)), .val (.int ((own_I mx) + (1 : Int32))), .val (.ref ra), .val (.int (own_I i)), .val (.ref (ra + 1 + (i % (mx + 2)))), .val (.ref (ra + 1 + ((i - 1) % (mx + 2)))), .val (.int (own_I fi)), .val (.int (own_I la)), .val (.int ((own_edge b (mx + 2) mx i G) (i % (mx + 2)) (fi - 1))), s11, s12, s13] [])
        refine Go.of (fun _ kz => XS.iload X'.here hx rfl (hb hby own_dd180) rfl kz) ?_
        show Go p e below _ T' (mkF m 182 #[.val (.ref fa), .val (.ref ta), .val (.int (own_I mx)), .val (.int ((own_I mx) + (1 : Int32))), .val (.ref ra), .val (.int (own_I i)), .val (.ref (ra + 1 + (i % (mx + 2)))), .val (.ref (ra + 1 + ((i - 1) % (mx + 2)))), .val (.int (own_I fi)), .val (.int (own_I la)), .val (.int ((own_edge b (mx + 2) mx i G) (i % (mx + 2)) (fi - 1))), s11, s12, s13] [(.int (own_I fi))])
        refine Go.of (fun _ kz => XS.istore X'.here hx rfl (hb hby own_dd182) rfl (l' := #[.val (.ref fa), .val (.ref ta), .val (.int (own_I mx)), .val (.int ((own_I mx) + (1 : Int32))), .val (.ref ra), .val (.int (own_I i)), .val (.ref (ra + 1 + (i % (mx + 2)))), .val (.ref (ra + 1 + ((i - 1) % (mx + 2)))), .val (.int (own_I fi)), .val (.int (own_I la)), .val (.int ((own_edge b (mx + 2) mx i G) (i % (mx + 2)) (fi - 1))), .val (.int (own_I fi)), s12, s13]) (own_dos182 hs11) kz) ?_
        show Go p e below _ T' (mkF m 184 #[.val (.ref fa), .val (.ref ta), .val (.int (own_I mx)), .val (.int ((own_I mx) + (1 : Int32))), .val (.ref ra), .val (.int (own_I i)), .val (.ref (ra + 1 + (i % (mx + 2)))), .val (.ref (ra + 1 + ((i - 1) % (mx + 2)))), .val (.int (own_I fi)), .val (.int (own_I la)), .val (.int ((own_edge b (mx + 2) mx i G) (i % (mx + 2)) (fi - 1))), .val (.int (own_I fi)), s12, s13] [])
        have inner : ∀ (mm j : Nat) (T : State) (h : Heap) (locs : List Loc) (G : Nat → Nat → Int32) (rm : Int32) (s12 s13 : Slot), One s12 → One s13 → j + mm = la + 1 → 0 < j → Stand p l e ({ frames := 2, cells := 10, slots := 45, locals := 37 } : Room) s m #[(.ref fa), (.ref ta), (.int (own_I mx))] below meth c T locs 10 45 → T.heap = h → Fr h0.size locs → Grid Z h fa ta ra kf kt kr ki a b f g (mx + 2) (b + 1) G → (if own_I mx < (own_inner (own_E a b f g) (mx + 2) mx i mm j G rm).2 then own_I mx + 1 else own_outer (own_E a b f g) a b (mx + 2) mx n (i + 1) (own_inner (own_E a b f g) (mx + 2) mx i mm j G rm).1) = own_dist (own_E a b f g) a b mx → Go p e below (GoEnd s ({ frames := 2, cells := 10, slots := 45, locals := 37 } : Room).cells ({ frames := 2, cells := 10, slots := 45, locals := 37 } : Room).slots ((own_rmD_Q Z fa ta kf kt a b f g mx h0))) T (mkF m 184 #[.val (.ref fa), .val (.ref ta), .val (.int (own_I mx)), .val (.int ((own_I mx) + (1 : Int32))), .val (.ref ra), .val (.int (own_I i)), .val (.ref (ra + 1 + (i % (mx + 2)))), .val (.ref (ra + 1 + ((i - 1) % (mx + 2)))), .val (.int (own_I fi)), .val (.int (own_I la)), .val (.int rm), .val (.int (own_I j)), s12, s13] []) := by
          intro mm
          induction mm with
          | zero =>
            intro j T h locs G rm s12 s13 hs12 hs13 hjm hj0 X e' N D hR
            change (if own_I mx < rm then own_I mx + 1 else own_outer (own_E a b f g) a b (mx + 2) mx n (i + 1) G) = own_dist (own_E a b f g) a b mx at hR
            show Go p e below _ T (mkF m 184 #[.val (.ref fa), .val (.ref ta), .val (.int (own_I mx)), .val (.int ((own_I mx) + (1 : Int32))), .val (.ref ra), .val (.int (own_I i)), .val (.ref (ra + 1 + (i % (mx + 2)))), .val (.ref (ra + 1 + ((i - 1) % (mx + 2)))), .val (.int (own_I fi)), .val (.int (own_I la)), .val (.int rm), .val (.int (own_I j)), s12, s13] [])
            refine Go.of (fun _ kz => XS.iload X.here hx rfl (hb hby own_dd184) rfl kz) ?_
            show Go p e below _ T (mkF m 186 #[.val (.ref fa), .val (.ref ta), .val (.int (own_I mx)), .val (.int ((own_I mx) + (1 : Int32))), .val (.ref ra), .val (.int (own_I i)), .val (.ref (ra + 1 + (i % (mx + 2)))), .val (.ref (ra + 1 + ((i - 1) % (mx + 2)))), .val (.int (own_I fi)), .val (.int (own_I la)), .val (.int rm), .val (.int (own_I j)), s12, s13] [(.int (own_I j))])
            refine Go.of (fun _ kz => XS.iload X.here hx rfl (hb hby own_dd186) rfl kz) ?_
            show Go p e below _ T (mkF m 188 #[.val (.ref fa), .val (.ref ta), .val (.int (own_I mx)), .val (.int ((own_I mx) + (1 : Int32))), .val (.ref ra), .val (.int (own_I i)), .val (.ref (ra + 1 + (i % (mx + 2)))), .val (.ref (ra + 1 + ((i - 1) % (mx + 2)))), .val (.int (own_I fi)), .val (.int (own_I la)), .val (.int rm), .val (.int (own_I j)), s12, s13] [(.int (own_I la)), (.int (own_I j))])
            refine Go.of (fun _ kz => XS.icmpYes X.here hx rfl (pc0 := 188) (pc' := 293) rfl (hb hby own_dd188) rfl (tlt ((own_I_lt (by omega) (by omega)).mpr (by omega))).2.2.1 (by decide) (by decide) kz) ?_
            show Go p e below _ T (mkF m 293 #[.val (.ref fa), .val (.ref ta), .val (.int (own_I mx)), .val (.int ((own_I mx) + (1 : Int32))), .val (.ref ra), .val (.int (own_I i)), .val (.ref (ra + 1 + (i % (mx + 2)))), .val (.ref (ra + 1 + ((i - 1) % (mx + 2)))), .val (.int (own_I fi)), .val (.int (own_I la)), .val (.int rm), .val (.int (own_I j)), s12, s13] [])
            refine Go.of (fun _ kz => XS.iload X.here hx rfl (hb hby own_dd293) rfl kz) ?_
            show Go p e below _ T (mkF m 295 #[.val (.ref fa), .val (.ref ta), .val (.int (own_I mx)), .val (.int ((own_I mx) + (1 : Int32))), .val (.ref ra), .val (.int (own_I i)), .val (.ref (ra + 1 + (i % (mx + 2)))), .val (.ref (ra + 1 + ((i - 1) % (mx + 2)))), .val (.int (own_I fi)), .val (.int (own_I la)), .val (.int rm), .val (.int (own_I j)), s12, s13] [(.int rm)])
            refine Go.of (fun _ kz => XS.iloadN X.here hx rfl (hb hby own_dd295) rfl kz) ?_
            show Go p e below _ T (mkF m 296 #[.val (.ref fa), .val (.ref ta), .val (.int (own_I mx)), .val (.int ((own_I mx) + (1 : Int32))), .val (.ref ra), .val (.int (own_I i)), .val (.ref (ra + 1 + (i % (mx + 2)))), .val (.ref (ra + 1 + ((i - 1) % (mx + 2)))), .val (.int (own_I fi)), .val (.int (own_I la)), .val (.int rm), .val (.int (own_I j)), s12, s13] [(.int (own_I mx)), (.int rm)])
            by_cases hc296 : (own_I mx) < rm
            ·
              refine Go.of (fun _ kz => XS.icmpNo X.here hx rfl (hb hby own_dd296) rfl (tlt hc296).2.2.2 kz) ?_
              show Go p e below _ T (mkF m 299 #[.val (.ref fa), .val (.ref ta), .val (.int (own_I mx)), .val (.int ((own_I mx) + (1 : Int32))), .val (.ref ra), .val (.int (own_I i)), .val (.ref (ra + 1 + (i % (mx + 2)))), .val (.ref (ra + 1 + ((i - 1) % (mx + 2)))), .val (.int (own_I fi)), .val (.int (own_I la)), .val (.int rm), .val (.int (own_I j)), s12, s13] [])
              refine Go.of (fun _ kz => XS.iloadN X.here hx rfl (hb hby own_dd299) rfl kz) ?_
              show Go p e below _ T (mkF m 300 #[.val (.ref fa), .val (.ref ta), .val (.int (own_I mx)), .val (.int ((own_I mx) + (1 : Int32))), .val (.ref ra), .val (.int (own_I i)), .val (.ref (ra + 1 + (i % (mx + 2)))), .val (.ref (ra + 1 + ((i - 1) % (mx + 2)))), .val (.int (own_I fi)), .val (.int (own_I la)), .val (.int rm), .val (.int (own_I j)), s12, s13] [(.int ((own_I mx) + (1 : Int32)))])
              exact Go.retI X hx hlk hret (hb hby own_dd300) (by decide) (by decide) ⟨congrArg (fun z => some (Value.int z)) (by rw [if_pos hc296] at hR; exact hR), N⟩
            ·
              refine Go.of (fun _ kz => XS.icmpYes X.here hx rfl (pc0 := 296) (pc' := 301) rfl (hb hby own_dd296) rfl (flt hc296).2.2.2 (by decide) (by decide) kz) ?_
              show Go p e below _ T (mkF m 301 #[.val (.ref fa), .val (.ref ta), .val (.int (own_I mx)), .val (.int ((own_I mx) + (1 : Int32))), .val (.ref ra), .val (.int (own_I i)), .val (.ref (ra + 1 + (i % (mx + 2)))), .val (.ref (ra + 1 + ((i - 1) % (mx + 2)))), .val (.int (own_I fi)), .val (.int (own_I la)), .val (.int rm), .val (.int (own_I j)), s12, s13] [])
              refine Go.of (fun _ kz => XS.iinc X.here hx rfl (hb hby own_dd301) rfl (l' := #[.val (.ref fa), .val (.ref ta), .val (.int (own_I mx)), .val (.int ((own_I mx) + (1 : Int32))), .val (.ref ra), .val (.int ((own_I i) + (1 : Int32))), .val (.ref (ra + 1 + (i % (mx + 2)))), .val (.ref (ra + 1 + ((i - 1) % (mx + 2)))), .val (.int (own_I fi)), .val (.int (own_I la)), .val (.int rm), .val (.int (own_I j)), s12, s13]) rfl kz) ?_
              show Go p e below _ T (mkF m 304 #[.val (.ref fa), .val (.ref ta), .val (.int (own_I mx)), .val (.int ((own_I mx) + (1 : Int32))), .val (.ref ra), .val (.int ((own_I i) + (1 : Int32))), .val (.ref (ra + 1 + (i % (mx + 2)))), .val (.ref (ra + 1 + ((i - 1) % (mx + 2)))), .val (.int (own_I fi)), .val (.int (own_I la)), .val (.int rm), .val (.int (own_I j)), s12, s13] [])
              rw [own_I_up i]
              show Go p e below _ T (mkF m 304 #[.val (.ref fa), .val (.ref ta), .val (.int (own_I mx)), .val (.int ((own_I mx) + (1 : Int32))), .val (.ref ra), .val (.int (own_I (i + 1))), .val (.ref (ra + 1 + (i % (mx + 2)))), .val (.ref (ra + 1 + ((i - 1) % (mx + 2)))), .val (.int (own_I fi)), .val (.int (own_I la)), .val (.int rm), .val (.int (own_I j)), s12, s13] [])
              refine Go.of (fun _ kz => XS.goto X.here hx rfl (pc0 := 304) (pc' := 81) rfl (hb hby own_dd304) (by decide) (by decide) kz) ?_
              show Go p e below _ T (mkF m 81 #[.val (.ref fa), .val (.ref ta), .val (.int (own_I mx)), .val (.int ((own_I mx) + (1 : Int32))), .val (.ref ra), .val (.int (own_I (i + 1))), .val (.ref (ra + 1 + (i % (mx + 2)))), .val (.ref (ra + 1 + ((i - 1) % (mx + 2)))), .val (.int (own_I fi)), .val (.int (own_I la)), .val (.int rm), .val (.int (own_I j)), s12, s13] [])
              exact ih (i + 1) T h locs G _ _ _ _ _ _ _ _ (One.val rfl) (One.val rfl) (One.val rfl) (One.val rfl) (One.val rfl) (One.val rfl) hs12 hs13 (by omega) (by omega) X e' N D (by rw [if_neg hc296] at hR; exact hR)
          | succ mm ihm =>
            intro j T h locs G rm s12 s13 hs12 hs13 hjm hj0 X e' N D hR
            simp only [own_inner] at hR
            show Go p e below _ T (mkF m 184 #[.val (.ref fa), .val (.ref ta), .val (.int (own_I mx)), .val (.int ((own_I mx) + (1 : Int32))), .val (.ref ra), .val (.int (own_I i)), .val (.ref (ra + 1 + (i % (mx + 2)))), .val (.ref (ra + 1 + ((i - 1) % (mx + 2)))), .val (.int (own_I fi)), .val (.int (own_I la)), .val (.int rm), .val (.int (own_I j)), s12, s13] [])
            refine Go.of (fun _ kz => XS.iload X.here hx rfl (hb hby own_dd184) rfl kz) ?_
            show Go p e below _ T (mkF m 186 #[.val (.ref fa), .val (.ref ta), .val (.int (own_I mx)), .val (.int ((own_I mx) + (1 : Int32))), .val (.ref ra), .val (.int (own_I i)), .val (.ref (ra + 1 + (i % (mx + 2)))), .val (.ref (ra + 1 + ((i - 1) % (mx + 2)))), .val (.int (own_I fi)), .val (.int (own_I la)), .val (.int rm), .val (.int (own_I j)), s12, s13] [(.int (own_I j))])
            refine Go.of (fun _ kz => XS.iload X.here hx rfl (hb hby own_dd186) rfl kz) ?_
            show Go p e below _ T (mkF m 188 #[.val (.ref fa), .val (.ref ta), .val (.int (own_I mx)), .val (.int ((own_I mx) + (1 : Int32))), .val (.ref ra), .val (.int (own_I i)), .val (.ref (ra + 1 + (i % (mx + 2)))), .val (.ref (ra + 1 + ((i - 1) % (mx + 2)))), .val (.int (own_I fi)), .val (.int (own_I la)), .val (.int rm), .val (.int (own_I j)), s12, s13] [(.int (own_I la)), (.int (own_I j))])
            refine Go.of (fun _ kz => XS.icmpNo X.here hx rfl (hb hby own_dd188) rfl (flt (fun z => absurd ((own_I_lt (by omega) (by omega)).mp z) (by omega))).2.2.1 kz) ?_
            show Go p e below _ T (mkF m 191 #[.val (.ref fa), .val (.ref ta), .val (.int (own_I mx)), .val (.int ((own_I mx) + (1 : Int32))), .val (.ref ra), .val (.int (own_I i)), .val (.ref (ra + 1 + (i % (mx + 2)))), .val (.ref (ra + 1 + ((i - 1) % (mx + 2)))), .val (.int (own_I fi)), .val (.int (own_I la)), .val (.int rm), .val (.int (own_I j)), s12, s13] [])
            refine Go.of (fun _ kz => XS.aload X.here hx rfl (hb hby own_dd191) rfl rfl kz) ?_
            show Go p e below _ T (mkF m 193 #[.val (.ref fa), .val (.ref ta), .val (.int (own_I mx)), .val (.int ((own_I mx) + (1 : Int32))), .val (.ref ra), .val (.int (own_I i)), .val (.ref (ra + 1 + (i % (mx + 2)))), .val (.ref (ra + 1 + ((i - 1) % (mx + 2)))), .val (.int (own_I fi)), .val (.int (own_I la)), .val (.int rm), .val (.int (own_I j)), s12, s13] [(.ref (ra + 1 + ((i - 1) % (mx + 2))))])
            refine Go.of (fun _ kz => XS.iload X.here hx rfl (hb hby own_dd193) rfl kz) ?_
            show Go p e below _ T (mkF m 195 #[.val (.ref fa), .val (.ref ta), .val (.int (own_I mx)), .val (.int ((own_I mx) + (1 : Int32))), .val (.ref ra), .val (.int (own_I i)), .val (.ref (ra + 1 + (i % (mx + 2)))), .val (.ref (ra + 1 + ((i - 1) % (mx + 2)))), .val (.int (own_I fi)), .val (.int (own_I la)), .val (.int rm), .val (.int (own_I j)), s12, s13] [(.int (own_I j)), (.ref (ra + 1 + ((i - 1) % (mx + 2))))])
            refine Go.of (fun _ kz => XS.iconst X.here hx rfl (hb hby own_dd195) kz) ?_
            show Go p e below _ T (mkF m 196 #[.val (.ref fa), .val (.ref ta), .val (.int (own_I mx)), .val (.int ((own_I mx) + (1 : Int32))), .val (.ref ra), .val (.int (own_I i)), .val (.ref (ra + 1 + (i % (mx + 2)))), .val (.ref (ra + 1 + ((i - 1) % (mx + 2)))), .val (.int (own_I fi)), .val (.int (own_I la)), .val (.int rm), .val (.int (own_I j)), s12, s13] [(.int (1 : Int32)), (.int (own_I j)), (.ref (ra + 1 + ((i - 1) % (mx + 2))))])
            refine Go.of (fun _ kz => XS.isub X.here hx rfl (hb hby own_dd196) rfl kz) ?_
            show Go p e below _ T (mkF m 197 #[.val (.ref fa), .val (.ref ta), .val (.int (own_I mx)), .val (.int ((own_I mx) + (1 : Int32))), .val (.ref ra), .val (.int (own_I i)), .val (.ref (ra + 1 + (i % (mx + 2)))), .val (.ref (ra + 1 + ((i - 1) % (mx + 2)))), .val (.int (own_I fi)), .val (.int (own_I la)), .val (.int rm), .val (.int (own_I j)), s12, s13] [(.int ((own_I j) - (1 : Int32))), (.ref (ra + 1 + ((i - 1) % (mx + 2))))])
            rw [own_I_down hj0]
            show Go p e below _ T (mkF m 197 #[.val (.ref fa), .val (.ref ta), .val (.int (own_I mx)), .val (.int ((own_I mx) + (1 : Int32))), .val (.ref ra), .val (.int (own_I i)), .val (.ref (ra + 1 + (i % (mx + 2)))), .val (.ref (ra + 1 + ((i - 1) % (mx + 2)))), .val (.int (own_I fi)), .val (.int (own_I la)), .val (.int rm), .val (.int (own_I j)), s12, s13] [(.int (own_I (j - 1))), (.ref (ra + 1 + ((i - 1) % (mx + 2))))])
            refine Go.gload X hx hZ e' (D.2.2.2.1 ((i - 1) % (mx + 2)) (Nat.mod_lt _ (by omega))) (i := (j - 1)) (by omega) (by omega) (hb hby own_dd197) ?_
            show Go p e below _ T (mkF m 198 #[.val (.ref fa), .val (.ref ta), .val (.int (own_I mx)), .val (.int ((own_I mx) + (1 : Int32))), .val (.ref ra), .val (.int (own_I i)), .val (.ref (ra + 1 + (i % (mx + 2)))), .val (.ref (ra + 1 + ((i - 1) % (mx + 2)))), .val (.int (own_I fi)), .val (.int (own_I la)), .val (.int rm), .val (.int (own_I j)), s12, s13] [(.int (G ((i - 1) % (mx + 2)) (j - 1)))])
            refine Go.of (fun _ kz => XS.aloadN X.here hx rfl (hb hby own_dd198) rfl rfl kz) ?_
            show Go p e below _ T (mkF m 199 #[.val (.ref fa), .val (.ref ta), .val (.int (own_I mx)), .val (.int ((own_I mx) + (1 : Int32))), .val (.ref ra), .val (.int (own_I i)), .val (.ref (ra + 1 + (i % (mx + 2)))), .val (.ref (ra + 1 + ((i - 1) % (mx + 2)))), .val (.int (own_I fi)), .val (.int (own_I la)), .val (.int rm), .val (.int (own_I j)), s12, s13] [(.ref fa), (.int (G ((i - 1) % (mx + 2)) (j - 1)))])
            refine Go.of (fun _ kz => XS.iload X.here hx rfl (hb hby own_dd199) rfl kz) ?_
            show Go p e below _ T (mkF m 201 #[.val (.ref fa), .val (.ref ta), .val (.int (own_I mx)), .val (.int ((own_I mx) + (1 : Int32))), .val (.ref ra), .val (.int (own_I i)), .val (.ref (ra + 1 + (i % (mx + 2)))), .val (.ref (ra + 1 + ((i - 1) % (mx + 2)))), .val (.int (own_I fi)), .val (.int (own_I la)), .val (.int rm), .val (.int (own_I j)), s12, s13] [(.int (own_I i)), (.ref fa), (.int (G ((i - 1) % (mx + 2)) (j - 1)))])
            refine Go.of (fun _ kz => XS.iconst X.here hx rfl (hb hby own_dd201) kz) ?_
            show Go p e below _ T (mkF m 202 #[.val (.ref fa), .val (.ref ta), .val (.int (own_I mx)), .val (.int ((own_I mx) + (1 : Int32))), .val (.ref ra), .val (.int (own_I i)), .val (.ref (ra + 1 + (i % (mx + 2)))), .val (.ref (ra + 1 + ((i - 1) % (mx + 2)))), .val (.int (own_I fi)), .val (.int (own_I la)), .val (.int rm), .val (.int (own_I j)), s12, s13] [(.int (1 : Int32)), (.int (own_I i)), (.ref fa), (.int (G ((i - 1) % (mx + 2)) (j - 1)))])
            refine Go.of (fun _ kz => XS.isub X.here hx rfl (hb hby own_dd202) rfl kz) ?_
            show Go p e below _ T (mkF m 203 #[.val (.ref fa), .val (.ref ta), .val (.int (own_I mx)), .val (.int ((own_I mx) + (1 : Int32))), .val (.ref ra), .val (.int (own_I i)), .val (.ref (ra + 1 + (i % (mx + 2)))), .val (.ref (ra + 1 + ((i - 1) % (mx + 2)))), .val (.int (own_I fi)), .val (.int (own_I la)), .val (.int rm), .val (.int (own_I j)), s12, s13] [(.int ((own_I i) - (1 : Int32))), (.ref fa), (.int (G ((i - 1) % (mx + 2)) (j - 1)))])
            rw [own_I_down hi0]
            show Go p e below _ T (mkF m 203 #[.val (.ref fa), .val (.ref ta), .val (.int (own_I mx)), .val (.int ((own_I mx) + (1 : Int32))), .val (.ref ra), .val (.int (own_I i)), .val (.ref (ra + 1 + (i % (mx + 2)))), .val (.ref (ra + 1 + ((i - 1) % (mx + 2)))), .val (.int (own_I fi)), .val (.int (own_I la)), .val (.int rm), .val (.int (own_I j)), s12, s13] [(.int (own_I (i - 1))), (.ref fa), (.int (G ((i - 1) % (mx + 2)) (j - 1)))])
            refine Go.gload X hx hZ e' D.1 (i := (i - 1)) (by omega) (by omega) (hb hby own_dd203) ?_
            show Go p e below _ T (mkF m 204 #[.val (.ref fa), .val (.ref ta), .val (.int (own_I mx)), .val (.int ((own_I mx) + (1 : Int32))), .val (.ref ra), .val (.int (own_I i)), .val (.ref (ra + 1 + (i % (mx + 2)))), .val (.ref (ra + 1 + ((i - 1) % (mx + 2)))), .val (.int (own_I fi)), .val (.int (own_I la)), .val (.int rm), .val (.int (own_I j)), s12, s13] [(.int (f (i - 1))), (.int (G ((i - 1) % (mx + 2)) (j - 1)))])
            refine Go.of (fun _ kz => XS.aloadN X.here hx rfl (hb hby own_dd204) rfl rfl kz) ?_
            show Go p e below _ T (mkF m 205 #[.val (.ref fa), .val (.ref ta), .val (.int (own_I mx)), .val (.int ((own_I mx) + (1 : Int32))), .val (.ref ra), .val (.int (own_I i)), .val (.ref (ra + 1 + (i % (mx + 2)))), .val (.ref (ra + 1 + ((i - 1) % (mx + 2)))), .val (.int (own_I fi)), .val (.int (own_I la)), .val (.int rm), .val (.int (own_I j)), s12, s13] [(.ref ta), (.int (f (i - 1))), (.int (G ((i - 1) % (mx + 2)) (j - 1)))])
            refine Go.of (fun _ kz => XS.iload X.here hx rfl (hb hby own_dd205) rfl kz) ?_
            show Go p e below _ T (mkF m 207 #[.val (.ref fa), .val (.ref ta), .val (.int (own_I mx)), .val (.int ((own_I mx) + (1 : Int32))), .val (.ref ra), .val (.int (own_I i)), .val (.ref (ra + 1 + (i % (mx + 2)))), .val (.ref (ra + 1 + ((i - 1) % (mx + 2)))), .val (.int (own_I fi)), .val (.int (own_I la)), .val (.int rm), .val (.int (own_I j)), s12, s13] [(.int (own_I j)), (.ref ta), (.int (f (i - 1))), (.int (G ((i - 1) % (mx + 2)) (j - 1)))])
            refine Go.of (fun _ kz => XS.iconst X.here hx rfl (hb hby own_dd207) kz) ?_
            show Go p e below _ T (mkF m 208 #[.val (.ref fa), .val (.ref ta), .val (.int (own_I mx)), .val (.int ((own_I mx) + (1 : Int32))), .val (.ref ra), .val (.int (own_I i)), .val (.ref (ra + 1 + (i % (mx + 2)))), .val (.ref (ra + 1 + ((i - 1) % (mx + 2)))), .val (.int (own_I fi)), .val (.int (own_I la)), .val (.int rm), .val (.int (own_I j)), s12, s13] [(.int (1 : Int32)), (.int (own_I j)), (.ref ta), (.int (f (i - 1))), (.int (G ((i - 1) % (mx + 2)) (j - 1)))])
            refine Go.of (fun _ kz => XS.isub X.here hx rfl (hb hby own_dd208) rfl kz) ?_
            show Go p e below _ T (mkF m 209 #[.val (.ref fa), .val (.ref ta), .val (.int (own_I mx)), .val (.int ((own_I mx) + (1 : Int32))), .val (.ref ra), .val (.int (own_I i)), .val (.ref (ra + 1 + (i % (mx + 2)))), .val (.ref (ra + 1 + ((i - 1) % (mx + 2)))), .val (.int (own_I fi)), .val (.int (own_I la)), .val (.int rm), .val (.int (own_I j)), s12, s13] [(.int ((own_I j) - (1 : Int32))), (.ref ta), (.int (f (i - 1))), (.int (G ((i - 1) % (mx + 2)) (j - 1)))])
            rw [own_I_down hj0]
            show Go p e below _ T (mkF m 209 #[.val (.ref fa), .val (.ref ta), .val (.int (own_I mx)), .val (.int ((own_I mx) + (1 : Int32))), .val (.ref ra), .val (.int (own_I i)), .val (.ref (ra + 1 + (i % (mx + 2)))), .val (.ref (ra + 1 + ((i - 1) % (mx + 2)))), .val (.int (own_I fi)), .val (.int (own_I la)), .val (.int rm), .val (.int (own_I j)), s12, s13] [(.int (own_I (j - 1))), (.ref ta), (.int (f (i - 1))), (.int (G ((i - 1) % (mx + 2)) (j - 1)))])
            refine Go.gload X hx hZ e' D.2.1 (i := (j - 1)) (by omega) (by omega) (hb hby own_dd209) ?_
            show Go p e below _ T (mkF m 210 #[.val (.ref fa), .val (.ref ta), .val (.int (own_I mx)), .val (.int ((own_I mx) + (1 : Int32))), .val (.ref ra), .val (.int (own_I i)), .val (.ref (ra + 1 + (i % (mx + 2)))), .val (.ref (ra + 1 + ((i - 1) % (mx + 2)))), .val (.int (own_I fi)), .val (.int (own_I la)), .val (.int rm), .val (.int (own_I j)), s12, s13] [(.int (g (j - 1))), (.int (f (i - 1))), (.int (G ((i - 1) % (mx + 2)) (j - 1)))])
            suffices km210 : ∀ (sb : Int32), sb = (if (f (i - 1)) = (g (j - 1)) then (0 : Int32) else (1 : Int32)) → Go p e below (GoEnd s ({ frames := 2, cells := 10, slots := 45, locals := 37 } : Room).cells ({ frames := 2, cells := 10, slots := 45, locals := 37 } : Room).slots ((own_rmD_Q Z fa ta kf kt a b f g mx h0))) T (mkF m 218 #[.val (.ref fa), .val (.ref ta), .val (.int (own_I mx)), .val (.int ((own_I mx) + (1 : Int32))), .val (.ref ra), .val (.int (own_I i)), .val (.ref (ra + 1 + (i % (mx + 2)))), .val (.ref (ra + 1 + ((i - 1) % (mx + 2)))), .val (.int (own_I fi)), .val (.int (own_I la)), .val (.int rm), .val (.int (own_I j)), s12, s13] [(.int sb), (.int (G ((i - 1) % (mx + 2)) (j - 1)))]) by
              by_cases hc210 : (f (i - 1)) = (g (j - 1))
              ·
                refine Go.of (fun _ kz => XS.icmpNo X.here hx rfl (hb hby own_dd210) rfl (teq hc210).2 kz) ?_
                show Go p e below _ T (mkF m 213 #[.val (.ref fa), .val (.ref ta), .val (.int (own_I mx)), .val (.int ((own_I mx) + (1 : Int32))), .val (.ref ra), .val (.int (own_I i)), .val (.ref (ra + 1 + (i % (mx + 2)))), .val (.ref (ra + 1 + ((i - 1) % (mx + 2)))), .val (.int (own_I fi)), .val (.int (own_I la)), .val (.int rm), .val (.int (own_I j)), s12, s13] [(.int (G ((i - 1) % (mx + 2)) (j - 1)))])
                refine Go.of (fun _ kz => XS.iconst X.here hx rfl (hb hby own_dd213) kz) ?_
                show Go p e below _ T (mkF m 214 #[.val (.ref fa), .val (.ref ta), .val (.int (own_I mx)), .val (.int ((own_I mx) + (1 : Int32))), .val (.ref ra), .val (.int (own_I i)), .val (.ref (ra + 1 + (i % (mx + 2)))), .val (.ref (ra + 1 + ((i - 1) % (mx + 2)))), .val (.int (own_I fi)), .val (.int (own_I la)), .val (.int rm), .val (.int (own_I j)), s12, s13] [(.int (0 : Int32)), (.int (G ((i - 1) % (mx + 2)) (j - 1)))])
                refine Go.of (fun _ kz => XS.goto X.here hx rfl (pc0 := 214) (pc' := 218) rfl (hb hby own_dd214) (by decide) (by decide) kz) ?_
                show Go p e below _ T (mkF m 218 #[.val (.ref fa), .val (.ref ta), .val (.int (own_I mx)), .val (.int ((own_I mx) + (1 : Int32))), .val (.ref ra), .val (.int (own_I i)), .val (.ref (ra + 1 + (i % (mx + 2)))), .val (.ref (ra + 1 + ((i - 1) % (mx + 2)))), .val (.int (own_I fi)), .val (.int (own_I la)), .val (.int rm), .val (.int (own_I j)), s12, s13] [(.int (0 : Int32)), (.int (G ((i - 1) % (mx + 2)) (j - 1)))])
                exact km210 _ (if_pos hc210).symm
              ·
                refine Go.of (fun _ kz => XS.icmpYes X.here hx rfl (pc0 := 210) (pc' := 217) rfl (hb hby own_dd210) rfl (feq hc210).2 (by decide) (by decide) kz) ?_
                show Go p e below _ T (mkF m 217 #[.val (.ref fa), .val (.ref ta), .val (.int (own_I mx)), .val (.int ((own_I mx) + (1 : Int32))), .val (.ref ra), .val (.int (own_I i)), .val (.ref (ra + 1 + (i % (mx + 2)))), .val (.ref (ra + 1 + ((i - 1) % (mx + 2)))), .val (.int (own_I fi)), .val (.int (own_I la)), .val (.int rm), .val (.int (own_I j)), s12, s13] [(.int (G ((i - 1) % (mx + 2)) (j - 1)))])
                refine Go.of (fun _ kz => XS.iconst X.here hx rfl (hb hby own_dd217) kz) ?_
                show Go p e below _ T (mkF m 218 #[.val (.ref fa), .val (.ref ta), .val (.int (own_I mx)), .val (.int ((own_I mx) + (1 : Int32))), .val (.ref ra), .val (.int (own_I i)), .val (.ref (ra + 1 + (i % (mx + 2)))), .val (.ref (ra + 1 + ((i - 1) % (mx + 2)))), .val (.int (own_I fi)), .val (.int (own_I la)), .val (.int rm), .val (.int (own_I j)), s12, s13] [(.int (1 : Int32)), (.int (G ((i - 1) % (mx + 2)) (j - 1)))])
                exact km210 _ (if_neg hc210).symm
            intro sb hu_sb
            show Go p e below _ T (mkF m 218 #[.val (.ref fa), .val (.ref ta), .val (.int (own_I mx)), .val (.int ((own_I mx) + (1 : Int32))), .val (.ref ra), .val (.int (own_I i)), .val (.ref (ra + 1 + (i % (mx + 2)))), .val (.ref (ra + 1 + ((i - 1) % (mx + 2)))), .val (.int (own_I fi)), .val (.int (own_I la)), .val (.int rm), .val (.int (own_I j)), s12, s13] [(.int sb), (.int (G ((i - 1) % (mx + 2)) (j - 1)))])
            refine Go.of (fun _ kz => XS.iadd X.here hx rfl (hb hby own_dd218) rfl kz) ?_
            show Go p e below _ T (mkF m 219 #[.val (.ref fa), .val (.ref ta), .val (.int (own_I mx)), .val (.int ((own_I mx) + (1 : Int32))), .val (.ref ra), .val (.int (own_I i)), .val (.ref (ra + 1 + (i % (mx + 2)))), .val (.ref (ra + 1 + ((i - 1) % (mx + 2)))), .val (.int (own_I fi)), .val (.int (own_I la)), .val (.int rm), .val (.int (own_I j)), s12, s13] [(.int ((G ((i - 1) % (mx + 2)) (j - 1)) + sb))])
            refine Go.of (fun _ kz => XS.istore X.here hx rfl (hb hby own_dd219) rfl (l' := #[.val (.ref fa), .val (.ref ta), .val (.int (own_I mx)), .val (.int ((own_I mx) + (1 : Int32))), .val (.ref ra), .val (.int (own_I i)), .val (.ref (ra + 1 + (i % (mx + 2)))), .val (.ref (ra + 1 + ((i - 1) % (mx + 2)))), .val (.int (own_I fi)), .val (.int (own_I la)), .val (.int rm), .val (.int (own_I j)), .val (.int ((G ((i - 1) % (mx + 2)) (j - 1)) + sb)), s13]) (own_dos219 hs12) kz) ?_
            show Go p e below _ T (mkF m 221 #[.val (.ref fa), .val (.ref ta), .val (.int (own_I mx)), .val (.int ((own_I mx) + (1 : Int32))), .val (.ref ra), .val (.int (own_I i)), .val (.ref (ra + 1 + (i % (mx + 2)))), .val (.ref (ra + 1 + ((i - 1) % (mx + 2)))), .val (.int (own_I fi)), .val (.int (own_I la)), .val (.int rm), .val (.int (own_I j)), .val (.int ((G ((i - 1) % (mx + 2)) (j - 1)) + sb)), s13] [])
            refine Go.of (fun _ kz => XS.iload X.here hx rfl (hb hby own_dd221) rfl kz) ?_
            show Go p e below _ T (mkF m 223 #[.val (.ref fa), .val (.ref ta), .val (.int (own_I mx)), .val (.int ((own_I mx) + (1 : Int32))), .val (.ref ra), .val (.int (own_I i)), .val (.ref (ra + 1 + (i % (mx + 2)))), .val (.ref (ra + 1 + ((i - 1) % (mx + 2)))), .val (.int (own_I fi)), .val (.int (own_I la)), .val (.int rm), .val (.int (own_I j)), .val (.int ((G ((i - 1) % (mx + 2)) (j - 1)) + sb)), s13] [(.int ((G ((i - 1) % (mx + 2)) (j - 1)) + sb))])
            refine Go.of (fun _ kz => XS.aload X.here hx rfl (hb hby own_dd223) rfl rfl kz) ?_
            show Go p e below _ T (mkF m 225 #[.val (.ref fa), .val (.ref ta), .val (.int (own_I mx)), .val (.int ((own_I mx) + (1 : Int32))), .val (.ref ra), .val (.int (own_I i)), .val (.ref (ra + 1 + (i % (mx + 2)))), .val (.ref (ra + 1 + ((i - 1) % (mx + 2)))), .val (.int (own_I fi)), .val (.int (own_I la)), .val (.int rm), .val (.int (own_I j)), .val (.int ((G ((i - 1) % (mx + 2)) (j - 1)) + sb)), s13] [(.ref (ra + 1 + (i % (mx + 2)))), (.int ((G ((i - 1) % (mx + 2)) (j - 1)) + sb))])
            refine Go.of (fun _ kz => XS.iload X.here hx rfl (hb hby own_dd225) rfl kz) ?_
            show Go p e below _ T (mkF m 227 #[.val (.ref fa), .val (.ref ta), .val (.int (own_I mx)), .val (.int ((own_I mx) + (1 : Int32))), .val (.ref ra), .val (.int (own_I i)), .val (.ref (ra + 1 + (i % (mx + 2)))), .val (.ref (ra + 1 + ((i - 1) % (mx + 2)))), .val (.int (own_I fi)), .val (.int (own_I la)), .val (.int rm), .val (.int (own_I j)), .val (.int ((G ((i - 1) % (mx + 2)) (j - 1)) + sb)), s13] [(.int (own_I j)), (.ref (ra + 1 + (i % (mx + 2)))), (.int ((G ((i - 1) % (mx + 2)) (j - 1)) + sb))])
            refine Go.of (fun _ kz => XS.iconst X.here hx rfl (hb hby own_dd227) kz) ?_
            show Go p e below _ T (mkF m 228 #[.val (.ref fa), .val (.ref ta), .val (.int (own_I mx)), .val (.int ((own_I mx) + (1 : Int32))), .val (.ref ra), .val (.int (own_I i)), .val (.ref (ra + 1 + (i % (mx + 2)))), .val (.ref (ra + 1 + ((i - 1) % (mx + 2)))), .val (.int (own_I fi)), .val (.int (own_I la)), .val (.int rm), .val (.int (own_I j)), .val (.int ((G ((i - 1) % (mx + 2)) (j - 1)) + sb)), s13] [(.int (1 : Int32)), (.int (own_I j)), (.ref (ra + 1 + (i % (mx + 2)))), (.int ((G ((i - 1) % (mx + 2)) (j - 1)) + sb))])
            refine Go.of (fun _ kz => XS.isub X.here hx rfl (hb hby own_dd228) rfl kz) ?_
            show Go p e below _ T (mkF m 229 #[.val (.ref fa), .val (.ref ta), .val (.int (own_I mx)), .val (.int ((own_I mx) + (1 : Int32))), .val (.ref ra), .val (.int (own_I i)), .val (.ref (ra + 1 + (i % (mx + 2)))), .val (.ref (ra + 1 + ((i - 1) % (mx + 2)))), .val (.int (own_I fi)), .val (.int (own_I la)), .val (.int rm), .val (.int (own_I j)), .val (.int ((G ((i - 1) % (mx + 2)) (j - 1)) + sb)), s13] [(.int ((own_I j) - (1 : Int32))), (.ref (ra + 1 + (i % (mx + 2)))), (.int ((G ((i - 1) % (mx + 2)) (j - 1)) + sb))])
            rw [own_I_down hj0]
            show Go p e below _ T (mkF m 229 #[.val (.ref fa), .val (.ref ta), .val (.int (own_I mx)), .val (.int ((own_I mx) + (1 : Int32))), .val (.ref ra), .val (.int (own_I i)), .val (.ref (ra + 1 + (i % (mx + 2)))), .val (.ref (ra + 1 + ((i - 1) % (mx + 2)))), .val (.int (own_I fi)), .val (.int (own_I la)), .val (.int rm), .val (.int (own_I j)), .val (.int ((G ((i - 1) % (mx + 2)) (j - 1)) + sb)), s13] [(.int (own_I (j - 1))), (.ref (ra + 1 + (i % (mx + 2)))), (.int ((G ((i - 1) % (mx + 2)) (j - 1)) + sb))])
            refine Go.gload X hx hZ e' (D.2.2.2.1 (i % (mx + 2)) (Nat.mod_lt _ (by omega))) (i := (j - 1)) (by omega) (by omega) (hb hby own_dd229) ?_
            show Go p e below _ T (mkF m 230 #[.val (.ref fa), .val (.ref ta), .val (.int (own_I mx)), .val (.int ((own_I mx) + (1 : Int32))), .val (.ref ra), .val (.int (own_I i)), .val (.ref (ra + 1 + (i % (mx + 2)))), .val (.ref (ra + 1 + ((i - 1) % (mx + 2)))), .val (.int (own_I fi)), .val (.int (own_I la)), .val (.int rm), .val (.int (own_I j)), .val (.int ((G ((i - 1) % (mx + 2)) (j - 1)) + sb)), s13] [(.int (G (i % (mx + 2)) (j - 1))), (.int ((G ((i - 1) % (mx + 2)) (j - 1)) + sb))])
            refine Go.of (fun _ kz => XS.aload X.here hx rfl (hb hby own_dd230) rfl rfl kz) ?_
            show Go p e below _ T (mkF m 232 #[.val (.ref fa), .val (.ref ta), .val (.int (own_I mx)), .val (.int ((own_I mx) + (1 : Int32))), .val (.ref ra), .val (.int (own_I i)), .val (.ref (ra + 1 + (i % (mx + 2)))), .val (.ref (ra + 1 + ((i - 1) % (mx + 2)))), .val (.int (own_I fi)), .val (.int (own_I la)), .val (.int rm), .val (.int (own_I j)), .val (.int ((G ((i - 1) % (mx + 2)) (j - 1)) + sb)), s13] [(.ref (ra + 1 + ((i - 1) % (mx + 2)))), (.int (G (i % (mx + 2)) (j - 1))), (.int ((G ((i - 1) % (mx + 2)) (j - 1)) + sb))])
            refine Go.of (fun _ kz => XS.iload X.here hx rfl (hb hby own_dd232) rfl kz) ?_
            show Go p e below _ T (mkF m 234 #[.val (.ref fa), .val (.ref ta), .val (.int (own_I mx)), .val (.int ((own_I mx) + (1 : Int32))), .val (.ref ra), .val (.int (own_I i)), .val (.ref (ra + 1 + (i % (mx + 2)))), .val (.ref (ra + 1 + ((i - 1) % (mx + 2)))), .val (.int (own_I fi)), .val (.int (own_I la)), .val (.int rm), .val (.int (own_I j)), .val (.int ((G ((i - 1) % (mx + 2)) (j - 1)) + sb)), s13] [(.int (own_I j)), (.ref (ra + 1 + ((i - 1) % (mx + 2)))), (.int (G (i % (mx + 2)) (j - 1))), (.int ((G ((i - 1) % (mx + 2)) (j - 1)) + sb))])
            refine Go.gload X hx hZ e' (D.2.2.2.1 ((i - 1) % (mx + 2)) (Nat.mod_lt _ (by omega))) (i := j) (by omega) (by omega) (hb hby own_dd234) ?_
            show Go p e below _ T (mkF m 235 #[.val (.ref fa), .val (.ref ta), .val (.int (own_I mx)), .val (.int ((own_I mx) + (1 : Int32))), .val (.ref ra), .val (.int (own_I i)), .val (.ref (ra + 1 + (i % (mx + 2)))), .val (.ref (ra + 1 + ((i - 1) % (mx + 2)))), .val (.int (own_I fi)), .val (.int (own_I la)), .val (.int rm), .val (.int (own_I j)), .val (.int ((G ((i - 1) % (mx + 2)) (j - 1)) + sb)), s13] [(.int (G ((i - 1) % (mx + 2)) j)), (.int (G (i % (mx + 2)) (j - 1))), (.int ((G ((i - 1) % (mx + 2)) (j - 1)) + sb))])
            refine Go.callSP (W := 1) (y := (⟨"java/lang/Math", "min", "(II)I"⟩ : MethodName)) (argsL := [(.int (G (i % (mx + 2)) (j - 1))), (.int (G ((i - 1) % (mx + 2)) j))]) (rest := [(.int ((G ((i - 1) % (mx + 2)) (j - 1)) + sb))]) (r := some (.int (own_min (G (i % (mx + 2)) (j - 1)) (G ((i - 1) % (mx + 2)) j)))) X hx hZ hown (hw _ (List.mem_of_getElem? (i := 18) rfl)) (hw _ (List.mem_of_getElem? (i := 19) rfl)) (hw _ (List.mem_of_getElem? (i := 14) rfl)) (hw _ (List.mem_of_getElem? (i := 20) rfl)) (by decide) (own_rmMin l Z a0 hw (G (i % (mx + 2)) (j - 1)) (G ((i - 1) % (mx + 2)) j) h) e' (by rw [hml]; rfl) (lenOf own_dsc2 rfl) (hb hby own_dd235) rfl (Nat.le_of_eq rfl) (by decide) (by decide) (by decide) (by decide) fun T9 X9 e9 => ?_
            show Go p e below _ T9 (mkF m 238 #[.val (.ref fa), .val (.ref ta), .val (.int (own_I mx)), .val (.int ((own_I mx) + (1 : Int32))), .val (.ref ra), .val (.int (own_I i)), .val (.ref (ra + 1 + (i % (mx + 2)))), .val (.ref (ra + 1 + ((i - 1) % (mx + 2)))), .val (.int (own_I fi)), .val (.int (own_I la)), .val (.int rm), .val (.int (own_I j)), .val (.int ((G ((i - 1) % (mx + 2)) (j - 1)) + sb)), s13] [(.int (own_min (G (i % (mx + 2)) (j - 1)) (G ((i - 1) % (mx + 2)) j))), (.int ((G ((i - 1) % (mx + 2)) (j - 1)) + sb))])
            refine Go.of (fun _ kz => XS.iconst X9.here hx rfl (hb hby own_dd238) kz) ?_
            show Go p e below _ T9 (mkF m 239 #[.val (.ref fa), .val (.ref ta), .val (.int (own_I mx)), .val (.int ((own_I mx) + (1 : Int32))), .val (.ref ra), .val (.int (own_I i)), .val (.ref (ra + 1 + (i % (mx + 2)))), .val (.ref (ra + 1 + ((i - 1) % (mx + 2)))), .val (.int (own_I fi)), .val (.int (own_I la)), .val (.int rm), .val (.int (own_I j)), .val (.int ((G ((i - 1) % (mx + 2)) (j - 1)) + sb)), s13] [(.int (1 : Int32)), (.int (own_min (G (i % (mx + 2)) (j - 1)) (G ((i - 1) % (mx + 2)) j))), (.int ((G ((i - 1) % (mx + 2)) (j - 1)) + sb))])
            refine Go.of (fun _ kz => XS.iadd X9.here hx rfl (hb hby own_dd239) rfl kz) ?_
            show Go p e below _ T9 (mkF m 240 #[.val (.ref fa), .val (.ref ta), .val (.int (own_I mx)), .val (.int ((own_I mx) + (1 : Int32))), .val (.ref ra), .val (.int (own_I i)), .val (.ref (ra + 1 + (i % (mx + 2)))), .val (.ref (ra + 1 + ((i - 1) % (mx + 2)))), .val (.int (own_I fi)), .val (.int (own_I la)), .val (.int rm), .val (.int (own_I j)), .val (.int ((G ((i - 1) % (mx + 2)) (j - 1)) + sb)), s13] [(.int ((own_min (G (i % (mx + 2)) (j - 1)) (G ((i - 1) % (mx + 2)) j)) + (1 : Int32))), (.int ((G ((i - 1) % (mx + 2)) (j - 1)) + sb))])
            refine Go.callSP (W := 0) (y := (⟨"java/lang/Math", "min", "(II)I"⟩ : MethodName)) (argsL := [(.int ((G ((i - 1) % (mx + 2)) (j - 1)) + sb)), (.int ((own_min (G (i % (mx + 2)) (j - 1)) (G ((i - 1) % (mx + 2)) j)) + (1 : Int32)))]) (rest := []) (r := some (.int (own_min ((G ((i - 1) % (mx + 2)) (j - 1)) + sb) ((own_min (G (i % (mx + 2)) (j - 1)) (G ((i - 1) % (mx + 2)) j)) + (1 : Int32))))) X9 hx hZ hown (hw _ (List.mem_of_getElem? (i := 18) rfl)) (hw _ (List.mem_of_getElem? (i := 19) rfl)) (hw _ (List.mem_of_getElem? (i := 14) rfl)) (hw _ (List.mem_of_getElem? (i := 20) rfl)) (by decide) (own_rmMin l Z a0 hw ((G ((i - 1) % (mx + 2)) (j - 1)) + sb) ((own_min (G (i % (mx + 2)) (j - 1)) (G ((i - 1) % (mx + 2)) j)) + (1 : Int32)) h) e9 (by rw [hml]; rfl) (lenOf own_dsc2 rfl) (hb hby own_dd240) rfl (Nat.le_of_eq rfl) (by decide) (by decide) (by decide) (by decide) fun T10 X10 e10 => ?_
            show Go p e below _ T10 (mkF m 243 #[.val (.ref fa), .val (.ref ta), .val (.int (own_I mx)), .val (.int ((own_I mx) + (1 : Int32))), .val (.ref ra), .val (.int (own_I i)), .val (.ref (ra + 1 + (i % (mx + 2)))), .val (.ref (ra + 1 + ((i - 1) % (mx + 2)))), .val (.int (own_I fi)), .val (.int (own_I la)), .val (.int rm), .val (.int (own_I j)), .val (.int ((G ((i - 1) % (mx + 2)) (j - 1)) + sb)), s13] [(.int (own_min ((G ((i - 1) % (mx + 2)) (j - 1)) + sb) ((own_min (G (i % (mx + 2)) (j - 1)) (G ((i - 1) % (mx + 2)) j)) + (1 : Int32))))])
            refine Go.of (fun _ kz => XS.istore X10.here hx rfl (hb hby own_dd243) rfl (l' := #[.val (.ref fa), .val (.ref ta), .val (.int (own_I mx)), .val (.int ((own_I mx) + (1 : Int32))), .val (.ref ra), .val (.int (own_I i)), .val (.ref (ra + 1 + (i % (mx + 2)))), .val (.ref (ra + 1 + ((i - 1) % (mx + 2)))), .val (.int (own_I fi)), .val (.int (own_I la)), .val (.int rm), .val (.int (own_I j)), .val (.int ((G ((i - 1) % (mx + 2)) (j - 1)) + sb)), .val (.int (own_min ((G ((i - 1) % (mx + 2)) (j - 1)) + sb) ((own_min (G (i % (mx + 2)) (j - 1)) (G ((i - 1) % (mx + 2)) j)) + (1 : Int32))))]) (own_dos243 hs13) kz) ?_
            show Go p e below _ T10 (mkF m 245 #[.val (.ref fa), .val (.ref ta), .val (.int (own_I mx)), .val (.int ((own_I mx) + (1 : Int32))), .val (.ref ra), .val (.int (own_I i)), .val (.ref (ra + 1 + (i % (mx + 2)))), .val (.ref (ra + 1 + ((i - 1) % (mx + 2)))), .val (.int (own_I fi)), .val (.int (own_I la)), .val (.int rm), .val (.int (own_I j)), .val (.int ((G ((i - 1) % (mx + 2)) (j - 1)) + sb)), .val (.int (own_min ((G ((i - 1) % (mx + 2)) (j - 1)) + sb) ((own_min (G (i % (mx + 2)) (j - 1)) (G ((i - 1) % (mx + 2)) j)) + (1 : Int32))))] [])
            refine Go.of (fun _ kz => XS.iload X10.here hx rfl (hb hby own_dd245) rfl kz) ?_
            show Go p e below _ T10 (mkF m 247 #[.val (.ref fa), .val (.ref ta), .val (.int (own_I mx)), .val (.int ((own_I mx) + (1 : Int32))), .val (.ref ra), .val (.int (own_I i)), .val (.ref (ra + 1 + (i % (mx + 2)))), .val (.ref (ra + 1 + ((i - 1) % (mx + 2)))), .val (.int (own_I fi)), .val (.int (own_I la)), .val (.int rm), .val (.int (own_I j)), .val (.int ((G ((i - 1) % (mx + 2)) (j - 1)) + sb)), .val (.int (own_min ((G ((i - 1) % (mx + 2)) (j - 1)) + sb) ((own_min (G (i % (mx + 2)) (j - 1)) (G ((i - 1) % (mx + 2)) j)) + (1 : Int32))))] [(.int (own_min ((G ((i - 1) % (mx + 2)) (j - 1)) + sb) ((own_min (G (i % (mx + 2)) (j - 1)) (G ((i - 1) % (mx + 2)) j)) + (1 : Int32))))])
            refine Go.of (fun _ kz => XS.aloadN X10.here hx rfl (hb hby own_dd247) rfl rfl kz) ?_
            show Go p e below _ T10 (mkF m 248 #[.val (.ref fa), .val (.ref ta), .val (.int (own_I mx)), .val (.int ((own_I mx) + (1 : Int32))), .val (.ref ra), .val (.int (own_I i)), .val (.ref (ra + 1 + (i % (mx + 2)))), .val (.ref (ra + 1 + ((i - 1) % (mx + 2)))), .val (.int (own_I fi)), .val (.int (own_I la)), .val (.int rm), .val (.int (own_I j)), .val (.int ((G ((i - 1) % (mx + 2)) (j - 1)) + sb)), .val (.int (own_min ((G ((i - 1) % (mx + 2)) (j - 1)) + sb) ((own_min (G (i % (mx + 2)) (j - 1)) (G ((i - 1) % (mx + 2)) j)) + (1 : Int32))))] [(.ref fa), (.int (own_min ((G ((i - 1) % (mx + 2)) (j - 1)) + sb) ((own_min (G (i % (mx + 2)) (j - 1)) (G ((i - 1) % (mx + 2)) j)) + (1 : Int32))))])
            refine Go.of (fun _ kz => XS.aloadN X10.here hx rfl (hb hby own_dd248) rfl rfl kz) ?_
            show Go p e below _ T10 (mkF m 249 #[.val (.ref fa), .val (.ref ta), .val (.int (own_I mx)), .val (.int ((own_I mx) + (1 : Int32))), .val (.ref ra), .val (.int (own_I i)), .val (.ref (ra + 1 + (i % (mx + 2)))), .val (.ref (ra + 1 + ((i - 1) % (mx + 2)))), .val (.int (own_I fi)), .val (.int (own_I la)), .val (.int rm), .val (.int (own_I j)), .val (.int ((G ((i - 1) % (mx + 2)) (j - 1)) + sb)), .val (.int (own_min ((G ((i - 1) % (mx + 2)) (j - 1)) + sb) ((own_min (G (i % (mx + 2)) (j - 1)) (G ((i - 1) % (mx + 2)) j)) + (1 : Int32))))] [(.ref ta), (.ref fa), (.int (own_min ((G ((i - 1) % (mx + 2)) (j - 1)) + sb) ((own_min (G (i % (mx + 2)) (j - 1)) (G ((i - 1) % (mx + 2)) j)) + (1 : Int32))))])
            refine Go.of (fun _ kz => XS.iload X10.here hx rfl (hb hby own_dd249) rfl kz) ?_
            show Go p e below _ T10 (mkF m 251 #[.val (.ref fa), .val (.ref ta), .val (.int (own_I mx)), .val (.int ((own_I mx) + (1 : Int32))), .val (.ref ra), .val (.int (own_I i)), .val (.ref (ra + 1 + (i % (mx + 2)))), .val (.ref (ra + 1 + ((i - 1) % (mx + 2)))), .val (.int (own_I fi)), .val (.int (own_I la)), .val (.int rm), .val (.int (own_I j)), .val (.int ((G ((i - 1) % (mx + 2)) (j - 1)) + sb)), .val (.int (own_min ((G ((i - 1) % (mx + 2)) (j - 1)) + sb) ((own_min (G (i % (mx + 2)) (j - 1)) (G ((i - 1) % (mx + 2)) j)) + (1 : Int32))))] [(.int (own_I i)), (.ref ta), (.ref fa), (.int (own_min ((G ((i - 1) % (mx + 2)) (j - 1)) + sb) ((own_min (G (i % (mx + 2)) (j - 1)) (G ((i - 1) % (mx + 2)) j)) + (1 : Int32))))])
            refine Go.of (fun _ kz => XS.iload X10.here hx rfl (hb hby own_dd251) rfl kz) ?_
            show Go p e below _ T10 (mkF m 253 #[.val (.ref fa), .val (.ref ta), .val (.int (own_I mx)), .val (.int ((own_I mx) + (1 : Int32))), .val (.ref ra), .val (.int (own_I i)), .val (.ref (ra + 1 + (i % (mx + 2)))), .val (.ref (ra + 1 + ((i - 1) % (mx + 2)))), .val (.int (own_I fi)), .val (.int (own_I la)), .val (.int rm), .val (.int (own_I j)), .val (.int ((G ((i - 1) % (mx + 2)) (j - 1)) + sb)), .val (.int (own_min ((G ((i - 1) % (mx + 2)) (j - 1)) + sb) ((own_min (G (i % (mx + 2)) (j - 1)) (G ((i - 1) % (mx + 2)) j)) + (1 : Int32))))] [(.int (own_I j)), (.int (own_I i)), (.ref ta), (.ref fa), (.int (own_min ((G ((i - 1) % (mx + 2)) (j - 1)) + sb) ((own_min (G (i % (mx + 2)) (j - 1)) (G ((i - 1) % (mx + 2)) j)) + (1 : Int32))))])
            refine Go.of (fun _ kz => XS.iloadN X10.here hx rfl (hb hby own_dd253) rfl kz) ?_
            show Go p e below _ T10 (mkF m 254 #[.val (.ref fa), .val (.ref ta), .val (.int (own_I mx)), .val (.int ((own_I mx) + (1 : Int32))), .val (.ref ra), .val (.int (own_I i)), .val (.ref (ra + 1 + (i % (mx + 2)))), .val (.ref (ra + 1 + ((i - 1) % (mx + 2)))), .val (.int (own_I fi)), .val (.int (own_I la)), .val (.int rm), .val (.int (own_I j)), .val (.int ((G ((i - 1) % (mx + 2)) (j - 1)) + sb)), .val (.int (own_min ((G ((i - 1) % (mx + 2)) (j - 1)) + sb) ((own_min (G (i % (mx + 2)) (j - 1)) (G ((i - 1) % (mx + 2)) j)) + (1 : Int32))))] [(.int (own_I mx)), (.int (own_I j)), (.int (own_I i)), (.ref ta), (.ref fa), (.int (own_min ((G ((i - 1) % (mx + 2)) (j - 1)) + sb) ((own_min (G (i % (mx + 2)) (j - 1)) (G ((i - 1) % (mx + 2)) j)) + (1 : Int32))))])
            refine Go.of (fun _ kz => XS.aload X10.here hx rfl (hb hby own_dd254) rfl rfl kz) ?_
            show Go p e below _ T10 (mkF m 256 #[.val (.ref fa), .val (.ref ta), .val (.int (own_I mx)), .val (.int ((own_I mx) + (1 : Int32))), .val (.ref ra), .val (.int (own_I i)), .val (.ref (ra + 1 + (i % (mx + 2)))), .val (.ref (ra + 1 + ((i - 1) % (mx + 2)))), .val (.int (own_I fi)), .val (.int (own_I la)), .val (.int rm), .val (.int (own_I j)), .val (.int ((G ((i - 1) % (mx + 2)) (j - 1)) + sb)), .val (.int (own_min ((G ((i - 1) % (mx + 2)) (j - 1)) + sb) ((own_min (G (i % (mx + 2)) (j - 1)) (G ((i - 1) % (mx + 2)) j)) + (1 : Int32))))] [(.ref ra), (.int (own_I mx)), (.int (own_I j)), (.int (own_I i)), (.ref ta), (.ref fa), (.int (own_min ((G ((i - 1) % (mx + 2)) (j - 1)) + sb) ((own_min (G (i % (mx + 2)) (j - 1)) (G ((i - 1) % (mx + 2)) j)) + (1 : Int32))))])
            refine Go.callSP (W := 1) (y := (⟨"com/example/keen_guess/keenguess/edit/EditDistance", "swap", "([I[IIII[[I)I"⟩ : MethodName)) (argsL := [(.ref fa), (.ref ta), (.int (own_I i)), (.int (own_I j)), (.int (own_I mx)), (.ref ra)]) (rest := [(.int (own_min ((G ((i - 1) % (mx + 2)) (j - 1)) + sb) ((own_min (G (i % (mx + 2)) (j - 1)) (G ((i - 1) % (mx + 2)) j)) + (1 : Int32))))]) (r := some (.int (own_swap (own_E a b f g) (mx + 2) mx G i j))) X10 hx hZ hown (hw _ (List.mem_of_getElem? (i := 25) rfl)) (hw _ (List.mem_of_getElem? (i := 26) rfl)) (hw _ (List.mem_of_getElem? (i := 10) rfl)) (hw _ (List.mem_of_getElem? (i := 27) rfl)) (by decide) (own_rmS l Z a0 hw fa ta ra kf kt kr ki a b f g mx G i j h ha hbb hm (by omega) (by omega) D) e10 (by rw [hml]; rfl) (lenOf own_dsc3 rfl) (hb hby own_dd256) rfl (Nat.le_of_eq rfl) (by decide) (by decide) (by decide) (by decide) fun T11 X11 e11 => ?_
            show Go p e below _ T11 (mkF m 259 #[.val (.ref fa), .val (.ref ta), .val (.int (own_I mx)), .val (.int ((own_I mx) + (1 : Int32))), .val (.ref ra), .val (.int (own_I i)), .val (.ref (ra + 1 + (i % (mx + 2)))), .val (.ref (ra + 1 + ((i - 1) % (mx + 2)))), .val (.int (own_I fi)), .val (.int (own_I la)), .val (.int rm), .val (.int (own_I j)), .val (.int ((G ((i - 1) % (mx + 2)) (j - 1)) + sb)), .val (.int (own_min ((G ((i - 1) % (mx + 2)) (j - 1)) + sb) ((own_min (G (i % (mx + 2)) (j - 1)) (G ((i - 1) % (mx + 2)) j)) + (1 : Int32))))] [(.int (own_swap (own_E a b f g) (mx + 2) mx G i j)), (.int (own_min ((G ((i - 1) % (mx + 2)) (j - 1)) + sb) ((own_min (G (i % (mx + 2)) (j - 1)) (G ((i - 1) % (mx + 2)) j)) + (1 : Int32))))])
            refine Go.callSP (W := 0) (y := (⟨"java/lang/Math", "min", "(II)I"⟩ : MethodName)) (argsL := [(.int (own_min ((G ((i - 1) % (mx + 2)) (j - 1)) + sb) ((own_min (G (i % (mx + 2)) (j - 1)) (G ((i - 1) % (mx + 2)) j)) + (1 : Int32)))), (.int (own_swap (own_E a b f g) (mx + 2) mx G i j))]) (rest := []) (r := some (.int (own_min (own_min ((G ((i - 1) % (mx + 2)) (j - 1)) + sb) ((own_min (G (i % (mx + 2)) (j - 1)) (G ((i - 1) % (mx + 2)) j)) + (1 : Int32))) (own_swap (own_E a b f g) (mx + 2) mx G i j)))) X11 hx hZ hown (hw _ (List.mem_of_getElem? (i := 18) rfl)) (hw _ (List.mem_of_getElem? (i := 19) rfl)) (hw _ (List.mem_of_getElem? (i := 14) rfl)) (hw _ (List.mem_of_getElem? (i := 20) rfl)) (by decide) (own_rmMin l Z a0 hw (own_min ((G ((i - 1) % (mx + 2)) (j - 1)) + sb) ((own_min (G (i % (mx + 2)) (j - 1)) (G ((i - 1) % (mx + 2)) j)) + (1 : Int32))) (own_swap (own_E a b f g) (mx + 2) mx G i j) h) e11 (by rw [hml]; rfl) (lenOf own_dsc2 rfl) (hb hby own_dd259) rfl (Nat.le_of_eq rfl) (by decide) (by decide) (by decide) (by decide) fun T12 X12 e12 => ?_
            show Go p e below _ T12 (mkF m 262 #[.val (.ref fa), .val (.ref ta), .val (.int (own_I mx)), .val (.int ((own_I mx) + (1 : Int32))), .val (.ref ra), .val (.int (own_I i)), .val (.ref (ra + 1 + (i % (mx + 2)))), .val (.ref (ra + 1 + ((i - 1) % (mx + 2)))), .val (.int (own_I fi)), .val (.int (own_I la)), .val (.int rm), .val (.int (own_I j)), .val (.int ((G ((i - 1) % (mx + 2)) (j - 1)) + sb)), .val (.int (own_min ((G ((i - 1) % (mx + 2)) (j - 1)) + sb) ((own_min (G (i % (mx + 2)) (j - 1)) (G ((i - 1) % (mx + 2)) j)) + (1 : Int32))))] [(.int (own_min (own_min ((G ((i - 1) % (mx + 2)) (j - 1)) + sb) ((own_min (G (i % (mx + 2)) (j - 1)) (G ((i - 1) % (mx + 2)) j)) + (1 : Int32))) (own_swap (own_E a b f g) (mx + 2) mx G i j)))])
            refine Go.of (fun _ kz => XS.istore X12.here hx rfl (hb hby own_dd262) rfl (l' := #[.val (.ref fa), .val (.ref ta), .val (.int (own_I mx)), .val (.int ((own_I mx) + (1 : Int32))), .val (.ref ra), .val (.int (own_I i)), .val (.ref (ra + 1 + (i % (mx + 2)))), .val (.ref (ra + 1 + ((i - 1) % (mx + 2)))), .val (.int (own_I fi)), .val (.int (own_I la)), .val (.int rm), .val (.int (own_I j)), .val (.int ((G ((i - 1) % (mx + 2)) (j - 1)) + sb)), .val (.int (own_min (own_min ((G ((i - 1) % (mx + 2)) (j - 1)) + sb) ((own_min (G (i % (mx + 2)) (j - 1)) (G ((i - 1) % (mx + 2)) j)) + (1 : Int32))) (own_swap (own_E a b f g) (mx + 2) mx G i j)))]) rfl kz) ?_
            show Go p e below _ T12 (mkF m 264 #[.val (.ref fa), .val (.ref ta), .val (.int (own_I mx)), .val (.int ((own_I mx) + (1 : Int32))), .val (.ref ra), .val (.int (own_I i)), .val (.ref (ra + 1 + (i % (mx + 2)))), .val (.ref (ra + 1 + ((i - 1) % (mx + 2)))), .val (.int (own_I fi)), .val (.int (own_I la)), .val (.int rm), .val (.int (own_I j)), .val (.int ((G ((i - 1) % (mx + 2)) (j - 1)) + sb)), .val (.int (own_min (own_min ((G ((i - 1) % (mx + 2)) (j - 1)) + sb) ((own_min (G (i % (mx + 2)) (j - 1)) (G ((i - 1) % (mx + 2)) j)) + (1 : Int32))) (own_swap (own_E a b f g) (mx + 2) mx G i j)))] [])
            refine Go.of (fun _ kz => XS.aload X12.here hx rfl (hb hby own_dd264) rfl rfl kz) ?_
            show Go p e below _ T12 (mkF m 266 #[.val (.ref fa), .val (.ref ta), .val (.int (own_I mx)), .val (.int ((own_I mx) + (1 : Int32))), .val (.ref ra), .val (.int (own_I i)), .val (.ref (ra + 1 + (i % (mx + 2)))), .val (.ref (ra + 1 + ((i - 1) % (mx + 2)))), .val (.int (own_I fi)), .val (.int (own_I la)), .val (.int rm), .val (.int (own_I j)), .val (.int ((G ((i - 1) % (mx + 2)) (j - 1)) + sb)), .val (.int (own_min (own_min ((G ((i - 1) % (mx + 2)) (j - 1)) + sb) ((own_min (G (i % (mx + 2)) (j - 1)) (G ((i - 1) % (mx + 2)) j)) + (1 : Int32))) (own_swap (own_E a b f g) (mx + 2) mx G i j)))] [(.ref (ra + 1 + (i % (mx + 2))))])
            refine Go.of (fun _ kz => XS.iload X12.here hx rfl (hb hby own_dd266) rfl kz) ?_
            show Go p e below _ T12 (mkF m 268 #[.val (.ref fa), .val (.ref ta), .val (.int (own_I mx)), .val (.int ((own_I mx) + (1 : Int32))), .val (.ref ra), .val (.int (own_I i)), .val (.ref (ra + 1 + (i % (mx + 2)))), .val (.ref (ra + 1 + ((i - 1) % (mx + 2)))), .val (.int (own_I fi)), .val (.int (own_I la)), .val (.int rm), .val (.int (own_I j)), .val (.int ((G ((i - 1) % (mx + 2)) (j - 1)) + sb)), .val (.int (own_min (own_min ((G ((i - 1) % (mx + 2)) (j - 1)) + sb) ((own_min (G (i % (mx + 2)) (j - 1)) (G ((i - 1) % (mx + 2)) j)) + (1 : Int32))) (own_swap (own_E a b f g) (mx + 2) mx G i j)))] [(.int (own_I j)), (.ref (ra + 1 + (i % (mx + 2))))])
            refine Go.of (fun _ kz => XS.iload X12.here hx rfl (hb hby own_dd268) rfl kz) ?_
            show Go p e below _ T12 (mkF m 270 #[.val (.ref fa), .val (.ref ta), .val (.int (own_I mx)), .val (.int ((own_I mx) + (1 : Int32))), .val (.ref ra), .val (.int (own_I i)), .val (.ref (ra + 1 + (i % (mx + 2)))), .val (.ref (ra + 1 + ((i - 1) % (mx + 2)))), .val (.int (own_I fi)), .val (.int (own_I la)), .val (.int rm), .val (.int (own_I j)), .val (.int ((G ((i - 1) % (mx + 2)) (j - 1)) + sb)), .val (.int (own_min (own_min ((G ((i - 1) % (mx + 2)) (j - 1)) + sb) ((own_min (G (i % (mx + 2)) (j - 1)) (G ((i - 1) % (mx + 2)) j)) + (1 : Int32))) (own_swap (own_E a b f g) (mx + 2) mx G i j)))] [(.int (own_min (own_min ((G ((i - 1) % (mx + 2)) (j - 1)) + sb) ((own_min (G (i % (mx + 2)) (j - 1)) (G ((i - 1) % (mx + 2)) j)) + (1 : Int32))) (own_swap (own_E a b f g) (mx + 2) mx G i j))), (.int (own_I j)), (.ref (ra + 1 + (i % (mx + 2))))])
            refine Go.of (fun _ kz => XS.iloadN X12.here hx rfl (hb hby own_dd270) rfl kz) ?_
            show Go p e below _ T12 (mkF m 271 #[.val (.ref fa), .val (.ref ta), .val (.int (own_I mx)), .val (.int ((own_I mx) + (1 : Int32))), .val (.ref ra), .val (.int (own_I i)), .val (.ref (ra + 1 + (i % (mx + 2)))), .val (.ref (ra + 1 + ((i - 1) % (mx + 2)))), .val (.int (own_I fi)), .val (.int (own_I la)), .val (.int rm), .val (.int (own_I j)), .val (.int ((G ((i - 1) % (mx + 2)) (j - 1)) + sb)), .val (.int (own_min (own_min ((G ((i - 1) % (mx + 2)) (j - 1)) + sb) ((own_min (G (i % (mx + 2)) (j - 1)) (G ((i - 1) % (mx + 2)) j)) + (1 : Int32))) (own_swap (own_E a b f g) (mx + 2) mx G i j)))] [(.int ((own_I mx) + (1 : Int32))), (.int (own_min (own_min ((G ((i - 1) % (mx + 2)) (j - 1)) + sb) ((own_min (G (i % (mx + 2)) (j - 1)) (G ((i - 1) % (mx + 2)) j)) + (1 : Int32))) (own_swap (own_E a b f g) (mx + 2) mx G i j))), (.int (own_I j)), (.ref (ra + 1 + (i % (mx + 2))))])
            refine Go.callSP (W := 2) (y := (⟨"java/lang/Math", "min", "(II)I"⟩ : MethodName)) (argsL := [(.int (own_min (own_min ((G ((i - 1) % (mx + 2)) (j - 1)) + sb) ((own_min (G (i % (mx + 2)) (j - 1)) (G ((i - 1) % (mx + 2)) j)) + (1 : Int32))) (own_swap (own_E a b f g) (mx + 2) mx G i j))), (.int ((own_I mx) + (1 : Int32)))]) (rest := [(.int (own_I j)), (.ref (ra + 1 + (i % (mx + 2))))]) (r := some (.int (own_min (own_min (own_min ((G ((i - 1) % (mx + 2)) (j - 1)) + sb) ((own_min (G (i % (mx + 2)) (j - 1)) (G ((i - 1) % (mx + 2)) j)) + (1 : Int32))) (own_swap (own_E a b f g) (mx + 2) mx G i j)) ((own_I mx) + (1 : Int32))))) X12 hx hZ hown (hw _ (List.mem_of_getElem? (i := 18) rfl)) (hw _ (List.mem_of_getElem? (i := 19) rfl)) (hw _ (List.mem_of_getElem? (i := 14) rfl)) (hw _ (List.mem_of_getElem? (i := 20) rfl)) (by decide) (own_rmMin l Z a0 hw (own_min (own_min ((G ((i - 1) % (mx + 2)) (j - 1)) + sb) ((own_min (G (i % (mx + 2)) (j - 1)) (G ((i - 1) % (mx + 2)) j)) + (1 : Int32))) (own_swap (own_E a b f g) (mx + 2) mx G i j)) ((own_I mx) + (1 : Int32)) h) e12 (by rw [hml]; rfl) (lenOf own_dsc2 rfl) (hb hby own_dd271) rfl (Nat.le_of_eq rfl) (by decide) (by decide) (by decide) (by decide) fun T13 X13 e13 => ?_
            show Go p e below _ T13 (mkF m 274 #[.val (.ref fa), .val (.ref ta), .val (.int (own_I mx)), .val (.int ((own_I mx) + (1 : Int32))), .val (.ref ra), .val (.int (own_I i)), .val (.ref (ra + 1 + (i % (mx + 2)))), .val (.ref (ra + 1 + ((i - 1) % (mx + 2)))), .val (.int (own_I fi)), .val (.int (own_I la)), .val (.int rm), .val (.int (own_I j)), .val (.int ((G ((i - 1) % (mx + 2)) (j - 1)) + sb)), .val (.int (own_min (own_min ((G ((i - 1) % (mx + 2)) (j - 1)) + sb) ((own_min (G (i % (mx + 2)) (j - 1)) (G ((i - 1) % (mx + 2)) j)) + (1 : Int32))) (own_swap (own_E a b f g) (mx + 2) mx G i j)))] [(.int (own_min (own_min (own_min ((G ((i - 1) % (mx + 2)) (j - 1)) + sb) ((own_min (G (i % (mx + 2)) (j - 1)) (G ((i - 1) % (mx + 2)) j)) + (1 : Int32))) (own_swap (own_E a b f g) (mx + 2) mx G i j)) ((own_I mx) + (1 : Int32)))), (.int (own_I j)), (.ref (ra + 1 + (i % (mx + 2))))])
            have hcell : (own_min (own_min (own_min ((G ((i - 1) % (mx + 2)) (j - 1)) + sb) ((own_min (G (i % (mx + 2)) (j - 1)) (G ((i - 1) % (mx + 2)) j)) + (1 : Int32))) (own_swap (own_E a b f g) (mx + 2) mx G i j)) ((own_I mx) + (1 : Int32))) = (own_cell (own_E a b f g) (mx + 2) mx G i j) := by
              rw [own_cell, hu_sb, own_E_at (by omega) (by omega)]
              by_cases q : f (i - 1) = g (j - 1)
              · rw [if_pos q, if_pos (decide_eq_true q)]
              · rw [if_neg q, if_neg (fun z => q (of_decide_eq_true z))]
            rw [hcell]
            show Go p e below _ T13 (mkF m 274 #[.val (.ref fa), .val (.ref ta), .val (.int (own_I mx)), .val (.int ((own_I mx) + (1 : Int32))), .val (.ref ra), .val (.int (own_I i)), .val (.ref (ra + 1 + (i % (mx + 2)))), .val (.ref (ra + 1 + ((i - 1) % (mx + 2)))), .val (.int (own_I fi)), .val (.int (own_I la)), .val (.int rm), .val (.int (own_I j)), .val (.int ((G ((i - 1) % (mx + 2)) (j - 1)) + sb)), .val (.int (own_min (own_min ((G ((i - 1) % (mx + 2)) (j - 1)) + sb) ((own_min (G (i % (mx + 2)) (j - 1)) (G ((i - 1) % (mx + 2)) j)) + (1 : Int32))) (own_swap (own_E a b f g) (mx + 2) mx G i j)))] [(.int (own_cell (own_E a b f g) (mx + 2) mx G i j)), (.int (own_I j)), (.ref (ra + 1 + (i % (mx + 2))))])
            refine Go.gstore X13 hx hZ e13 D (r := (i % (mx + 2))) (i := j) (Nat.mod_lt _ (by omega)) (by omega) (by omega) (Nat.le_of_eq hra.symm) N (hb hby own_dd274) fun T14 h14 locs14 X14 e14 N14 D14 => ?_
            show Go p e below _ T14 (mkF m 275 #[.val (.ref fa), .val (.ref ta), .val (.int (own_I mx)), .val (.int ((own_I mx) + (1 : Int32))), .val (.ref ra), .val (.int (own_I i)), .val (.ref (ra + 1 + (i % (mx + 2)))), .val (.ref (ra + 1 + ((i - 1) % (mx + 2)))), .val (.int (own_I fi)), .val (.int (own_I la)), .val (.int rm), .val (.int (own_I j)), .val (.int ((G ((i - 1) % (mx + 2)) (j - 1)) + sb)), .val (.int (own_min (own_min ((G ((i - 1) % (mx + 2)) (j - 1)) + sb) ((own_min (G (i % (mx + 2)) (j - 1)) (G ((i - 1) % (mx + 2)) j)) + (1 : Int32))) (own_swap (own_E a b f g) (mx + 2) mx G i j)))] [])
            refine Go.of (fun _ kz => XS.iload X14.here hx rfl (hb hby own_dd275) rfl kz) ?_
            show Go p e below _ T14 (mkF m 277 #[.val (.ref fa), .val (.ref ta), .val (.int (own_I mx)), .val (.int ((own_I mx) + (1 : Int32))), .val (.ref ra), .val (.int (own_I i)), .val (.ref (ra + 1 + (i % (mx + 2)))), .val (.ref (ra + 1 + ((i - 1) % (mx + 2)))), .val (.int (own_I fi)), .val (.int (own_I la)), .val (.int rm), .val (.int (own_I j)), .val (.int ((G ((i - 1) % (mx + 2)) (j - 1)) + sb)), .val (.int (own_min (own_min ((G ((i - 1) % (mx + 2)) (j - 1)) + sb) ((own_min (G (i % (mx + 2)) (j - 1)) (G ((i - 1) % (mx + 2)) j)) + (1 : Int32))) (own_swap (own_E a b f g) (mx + 2) mx G i j)))] [(.int rm)])
            refine Go.of (fun _ kz => XS.aload X14.here hx rfl (hb hby own_dd277) rfl rfl kz) ?_
            show Go p e below _ T14 (mkF m 279 #[.val (.ref fa), .val (.ref ta), .val (.int (own_I mx)), .val (.int ((own_I mx) + (1 : Int32))), .val (.ref ra), .val (.int (own_I i)), .val (.ref (ra + 1 + (i % (mx + 2)))), .val (.ref (ra + 1 + ((i - 1) % (mx + 2)))), .val (.int (own_I fi)), .val (.int (own_I la)), .val (.int rm), .val (.int (own_I j)), .val (.int ((G ((i - 1) % (mx + 2)) (j - 1)) + sb)), .val (.int (own_min (own_min ((G ((i - 1) % (mx + 2)) (j - 1)) + sb) ((own_min (G (i % (mx + 2)) (j - 1)) (G ((i - 1) % (mx + 2)) j)) + (1 : Int32))) (own_swap (own_E a b f g) (mx + 2) mx G i j)))] [(.ref (ra + 1 + (i % (mx + 2)))), (.int rm)])
            refine Go.of (fun _ kz => XS.iload X14.here hx rfl (hb hby own_dd279) rfl kz) ?_
            show Go p e below _ T14 (mkF m 281 #[.val (.ref fa), .val (.ref ta), .val (.int (own_I mx)), .val (.int ((own_I mx) + (1 : Int32))), .val (.ref ra), .val (.int (own_I i)), .val (.ref (ra + 1 + (i % (mx + 2)))), .val (.ref (ra + 1 + ((i - 1) % (mx + 2)))), .val (.int (own_I fi)), .val (.int (own_I la)), .val (.int rm), .val (.int (own_I j)), .val (.int ((G ((i - 1) % (mx + 2)) (j - 1)) + sb)), .val (.int (own_min (own_min ((G ((i - 1) % (mx + 2)) (j - 1)) + sb) ((own_min (G (i % (mx + 2)) (j - 1)) (G ((i - 1) % (mx + 2)) j)) + (1 : Int32))) (own_swap (own_E a b f g) (mx + 2) mx G i j)))] [(.int (own_I j)), (.ref (ra + 1 + (i % (mx + 2)))), (.int rm)])
            refine Go.gload X14 hx hZ e14 (D14.2.2.2.1 (i % (mx + 2)) (Nat.mod_lt _ (by omega))) (i := j) (by omega) (by omega) (hb hby own_dd281) ?_
            show Go p e below _ T14 (mkF m 282 #[.val (.ref fa), .val (.ref ta), .val (.int (own_I mx)), .val (.int ((own_I mx) + (1 : Int32))), .val (.ref ra), .val (.int (own_I i)), .val (.ref (ra + 1 + (i % (mx + 2)))), .val (.ref (ra + 1 + ((i - 1) % (mx + 2)))), .val (.int (own_I fi)), .val (.int (own_I la)), .val (.int rm), .val (.int (own_I j)), .val (.int ((G ((i - 1) % (mx + 2)) (j - 1)) + sb)), .val (.int (own_min (own_min ((G ((i - 1) % (mx + 2)) (j - 1)) + sb) ((own_min (G (i % (mx + 2)) (j - 1)) (G ((i - 1) % (mx + 2)) j)) + (1 : Int32))) (own_swap (own_E a b f g) (mx + 2) mx G i j)))] [(.int ((own_upd G (i % (mx + 2)) j (own_cell (own_E a b f g) (mx + 2) mx G i j)) (i % (mx + 2)) j)), (.int rm)])
            refine Go.callSP (W := 0) (y := (⟨"java/lang/Math", "min", "(II)I"⟩ : MethodName)) (argsL := [(.int rm), (.int ((own_upd G (i % (mx + 2)) j (own_cell (own_E a b f g) (mx + 2) mx G i j)) (i % (mx + 2)) j))]) (rest := []) (r := some (.int (own_min rm ((own_upd G (i % (mx + 2)) j (own_cell (own_E a b f g) (mx + 2) mx G i j)) (i % (mx + 2)) j)))) X14 hx hZ hown (hw _ (List.mem_of_getElem? (i := 18) rfl)) (hw _ (List.mem_of_getElem? (i := 19) rfl)) (hw _ (List.mem_of_getElem? (i := 14) rfl)) (hw _ (List.mem_of_getElem? (i := 20) rfl)) (by decide) (own_rmMin l Z a0 hw rm ((own_upd G (i % (mx + 2)) j (own_cell (own_E a b f g) (mx + 2) mx G i j)) (i % (mx + 2)) j) h14) e14 (by rw [hml]; rfl) (lenOf own_dsc2 rfl) (hb hby own_dd282) rfl (Nat.le_of_eq rfl) (by decide) (by decide) (by decide) (by decide) fun T15 X15 e15 => ?_
            show Go p e below _ T15 (mkF m 285 #[.val (.ref fa), .val (.ref ta), .val (.int (own_I mx)), .val (.int ((own_I mx) + (1 : Int32))), .val (.ref ra), .val (.int (own_I i)), .val (.ref (ra + 1 + (i % (mx + 2)))), .val (.ref (ra + 1 + ((i - 1) % (mx + 2)))), .val (.int (own_I fi)), .val (.int (own_I la)), .val (.int rm), .val (.int (own_I j)), .val (.int ((G ((i - 1) % (mx + 2)) (j - 1)) + sb)), .val (.int (own_min (own_min ((G ((i - 1) % (mx + 2)) (j - 1)) + sb) ((own_min (G (i % (mx + 2)) (j - 1)) (G ((i - 1) % (mx + 2)) j)) + (1 : Int32))) (own_swap (own_E a b f g) (mx + 2) mx G i j)))] [(.int (own_min rm ((own_upd G (i % (mx + 2)) j (own_cell (own_E a b f g) (mx + 2) mx G i j)) (i % (mx + 2)) j)))])
            refine Go.of (fun _ kz => XS.istore X15.here hx rfl (hb hby own_dd285) rfl (l' := #[.val (.ref fa), .val (.ref ta), .val (.int (own_I mx)), .val (.int ((own_I mx) + (1 : Int32))), .val (.ref ra), .val (.int (own_I i)), .val (.ref (ra + 1 + (i % (mx + 2)))), .val (.ref (ra + 1 + ((i - 1) % (mx + 2)))), .val (.int (own_I fi)), .val (.int (own_I la)), .val (.int (own_min rm ((own_upd G (i % (mx + 2)) j (own_cell (own_E a b f g) (mx + 2) mx G i j)) (i % (mx + 2)) j))), .val (.int (own_I j)), .val (.int ((G ((i - 1) % (mx + 2)) (j - 1)) + sb)), .val (.int (own_min (own_min ((G ((i - 1) % (mx + 2)) (j - 1)) + sb) ((own_min (G (i % (mx + 2)) (j - 1)) (G ((i - 1) % (mx + 2)) j)) + (1 : Int32))) (own_swap (own_E a b f g) (mx + 2) mx G i j)))]) rfl kz) ?_
            show Go p e below _ T15 (mkF m 287 #[.val (.ref fa), .val (.ref ta), .val (.int (own_I mx)), .val (.int ((own_I mx) + (1 : Int32))), .val (.ref ra), .val (.int (own_I i)), .val (.ref (ra + 1 + (i % (mx + 2)))), .val (.ref (ra + 1 + ((i - 1) % (mx + 2)))), .val (.int (own_I fi)), .val (.int (own_I la)), .val (.int (own_min rm ((own_upd G (i % (mx + 2)) j (own_cell (own_E a b f g) (mx + 2) mx G i j)) (i % (mx + 2)) j))), .val (.int (own_I j)), .val (.int ((G ((i - 1) % (mx + 2)) (j - 1)) + sb)), .val (.int (own_min (own_min ((G ((i - 1) % (mx + 2)) (j - 1)) + sb) ((own_min (G (i % (mx + 2)) (j - 1)) (G ((i - 1) % (mx + 2)) j)) + (1 : Int32))) (own_swap (own_E a b f g) (mx + 2) mx G i j)))] [])
            refine Go.of (fun _ kz => XS.iinc X15.here hx rfl (hb hby own_dd287) rfl (l' := #[.val (.ref fa), .val (.ref ta), .val (.int (own_I mx)), .val (.int ((own_I mx) + (1 : Int32))), .val (.ref ra), .val (.int (own_I i)), .val (.ref (ra + 1 + (i % (mx + 2)))), .val (.ref (ra + 1 + ((i - 1) % (mx + 2)))), .val (.int (own_I fi)), .val (.int (own_I la)), .val (.int (own_min rm ((own_upd G (i % (mx + 2)) j (own_cell (own_E a b f g) (mx + 2) mx G i j)) (i % (mx + 2)) j))), .val (.int ((own_I j) + (1 : Int32))), .val (.int ((G ((i - 1) % (mx + 2)) (j - 1)) + sb)), .val (.int (own_min (own_min ((G ((i - 1) % (mx + 2)) (j - 1)) + sb) ((own_min (G (i % (mx + 2)) (j - 1)) (G ((i - 1) % (mx + 2)) j)) + (1 : Int32))) (own_swap (own_E a b f g) (mx + 2) mx G i j)))]) rfl kz) ?_
            show Go p e below _ T15 (mkF m 290 #[.val (.ref fa), .val (.ref ta), .val (.int (own_I mx)), .val (.int ((own_I mx) + (1 : Int32))), .val (.ref ra), .val (.int (own_I i)), .val (.ref (ra + 1 + (i % (mx + 2)))), .val (.ref (ra + 1 + ((i - 1) % (mx + 2)))), .val (.int (own_I fi)), .val (.int (own_I la)), .val (.int (own_min rm ((own_upd G (i % (mx + 2)) j (own_cell (own_E a b f g) (mx + 2) mx G i j)) (i % (mx + 2)) j))), .val (.int ((own_I j) + (1 : Int32))), .val (.int ((G ((i - 1) % (mx + 2)) (j - 1)) + sb)), .val (.int (own_min (own_min ((G ((i - 1) % (mx + 2)) (j - 1)) + sb) ((own_min (G (i % (mx + 2)) (j - 1)) (G ((i - 1) % (mx + 2)) j)) + (1 : Int32))) (own_swap (own_E a b f g) (mx + 2) mx G i j)))] [])
            rw [own_I_up j]
            show Go p e below _ T15 (mkF m 290 #[.val (.ref fa), .val (.ref ta), .val (.int (own_I mx)), .val (.int ((own_I mx) + (1 : Int32))), .val (.ref ra), .val (.int (own_I i)), .val (.ref (ra + 1 + (i % (mx + 2)))), .val (.ref (ra + 1 + ((i - 1) % (mx + 2)))), .val (.int (own_I fi)), .val (.int (own_I la)), .val (.int (own_min rm ((own_upd G (i % (mx + 2)) j (own_cell (own_E a b f g) (mx + 2) mx G i j)) (i % (mx + 2)) j))), .val (.int (own_I (j + 1))), .val (.int ((G ((i - 1) % (mx + 2)) (j - 1)) + sb)), .val (.int (own_min (own_min ((G ((i - 1) % (mx + 2)) (j - 1)) + sb) ((own_min (G (i % (mx + 2)) (j - 1)) (G ((i - 1) % (mx + 2)) j)) + (1 : Int32))) (own_swap (own_E a b f g) (mx + 2) mx G i j)))] [])
            refine Go.of (fun _ kz => XS.goto X15.here hx rfl (pc0 := 290) (pc' := 184) rfl (hb hby own_dd290) (by decide) (by decide) kz) ?_
            show Go p e below _ T15 (mkF m 184 #[.val (.ref fa), .val (.ref ta), .val (.int (own_I mx)), .val (.int ((own_I mx) + (1 : Int32))), .val (.ref ra), .val (.int (own_I i)), .val (.ref (ra + 1 + (i % (mx + 2)))), .val (.ref (ra + 1 + ((i - 1) % (mx + 2)))), .val (.int (own_I fi)), .val (.int (own_I la)), .val (.int (own_min rm ((own_upd G (i % (mx + 2)) j (own_cell (own_E a b f g) (mx + 2) mx G i j)) (i % (mx + 2)) j))), .val (.int (own_I (j + 1))), .val (.int ((G ((i - 1) % (mx + 2)) (j - 1)) + sb)), .val (.int (own_min (own_min ((G ((i - 1) % (mx + 2)) (j - 1)) + sb) ((own_min (G (i % (mx + 2)) (j - 1)) (G ((i - 1) % (mx + 2)) j)) + (1 : Int32))) (own_swap (own_E a b f g) (mx + 2) mx G i j)))] [])
            exact ihm (j + 1) T15 h14 _ (own_upd G (i % (mx + 2)) j (own_cell (own_E a b f g) (mx + 2) mx G i j)) _ _ _ (One.val rfl) (One.val rfl) (by omega) (by omega) X15 e15 N14 D14 hR
        exact inner (la + 1 - fi) fi T' h' locs' (own_edge b (mx + 2) mx i G) _ _ _ hs12 hs13 (by omega) (by omega) X' e'' N' D' (by rw [hfi, hla] at hR; exact hR)
    have init : ∀ (n t : Nat) (T : State) (h : Heap) (locs : List Loc), t + n = b + 1 → Stand p l e ({ frames := 2, cells := 10, slots := 45, locals := 37 } : Room) s m #[(.ref fa), (.ref ta), (.int (own_I mx))] below meth c T locs 10 45 → T.heap = h → Fr h0.size locs → Grid Z h fa ta ra kf kt kr ki a b f g (mx + 2) (b + 1) (own_G0 mx t) → Go p e below (GoEnd s ({ frames := 2, cells := 10, slots := 45, locals := 37 } : Room).cells ({ frames := 2, cells := 10, slots := 45, locals := 37 } : Room).slots ((own_rmD_Q Z fa ta kf kt a b f g mx h0))) T (mkF m 52 #[.val (.ref fa), .val (.ref ta), .val (.int (own_I mx)), .val (.int ((own_I mx) + (1 : Int32))), .val (.ref ra), .val (.int (own_I t)), .unset, .unset, .unset, .unset, .unset, .unset, .unset, .unset] []) := by
      intro n
      induction n with
      | zero =>
        intro t T h locs htn X e' N D
        obtain rfl : t = b + 1 := by omega
        show Go p e below _ T (mkF m 52 #[.val (.ref fa), .val (.ref ta), .val (.int (own_I mx)), .val (.int ((own_I mx) + (1 : Int32))), .val (.ref ra), .val (.int (own_I (b + 1))), .unset, .unset, .unset, .unset, .unset, .unset, .unset, .unset] [])
        refine Go.of (fun _ kz => XS.iload X.here hx rfl (hb hby own_dd52) rfl kz) ?_
        show Go p e below _ T (mkF m 54 #[.val (.ref fa), .val (.ref ta), .val (.int (own_I mx)), .val (.int ((own_I mx) + (1 : Int32))), .val (.ref ra), .val (.int (own_I (b + 1))), .unset, .unset, .unset, .unset, .unset, .unset, .unset, .unset] [(.int (own_I (b + 1)))])
        refine Go.of (fun _ kz => XS.aloadN X.here hx rfl (hb hby own_dd54) rfl rfl kz) ?_
        show Go p e below _ T (mkF m 55 #[.val (.ref fa), .val (.ref ta), .val (.int (own_I mx)), .val (.int ((own_I mx) + (1 : Int32))), .val (.ref ra), .val (.int (own_I (b + 1))), .unset, .unset, .unset, .unset, .unset, .unset, .unset, .unset] [(.ref ta), (.int (own_I (b + 1)))])
        refine Go.len X hx hZ e' D.2.1 (hb hby own_dd55) ?_
        show Go p e below _ T (mkF m 56 #[.val (.ref fa), .val (.ref ta), .val (.int (own_I mx)), .val (.int ((own_I mx) + (1 : Int32))), .val (.ref ra), .val (.int (own_I (b + 1))), .unset, .unset, .unset, .unset, .unset, .unset, .unset, .unset] [(.int (own_I b)), (.int (own_I (b + 1)))])
        refine Go.of (fun _ kz => XS.icmpYes X.here hx rfl (pc0 := 56) (pc' := 78) rfl (hb hby own_dd56) rfl (tlt ((own_I_lt (by omega) (by omega)).mpr (by omega))).2.2.1 (by decide) (by decide) kz) ?_
        show Go p e below _ T (mkF m 78 #[.val (.ref fa), .val (.ref ta), .val (.int (own_I mx)), .val (.int ((own_I mx) + (1 : Int32))), .val (.ref ra), .val (.int (own_I (b + 1))), .unset, .unset, .unset, .unset, .unset, .unset, .unset, .unset] [])
        refine Go.of (fun _ kz => XS.iconst X.here hx rfl (hb hby own_dd78) kz) ?_
        show Go p e below _ T (mkF m 79 #[.val (.ref fa), .val (.ref ta), .val (.int (own_I mx)), .val (.int ((own_I mx) + (1 : Int32))), .val (.ref ra), .val (.int (own_I (b + 1))), .unset, .unset, .unset, .unset, .unset, .unset, .unset, .unset] [(.int (1 : Int32))])
        refine Go.of (fun _ kz => XS.istore X.here hx rfl (hb hby own_dd79) rfl (l' := #[.val (.ref fa), .val (.ref ta), .val (.int (own_I mx)), .val (.int ((own_I mx) + (1 : Int32))), .val (.ref ra), .val (.int (1 : Int32)), .unset, .unset, .unset, .unset, .unset, .unset, .unset, .unset]) rfl kz) ?_
        show Go p e below _ T (mkF m 81 #[.val (.ref fa), .val (.ref ta), .val (.int (own_I mx)), .val (.int ((own_I mx) + (1 : Int32))), .val (.ref ra), .val (.int (1 : Int32)), .unset, .unset, .unset, .unset, .unset, .unset, .unset, .unset] [])
        exact outer a 1 T h locs (own_G0 mx (b + 1)) _ _ _ _ _ _ _ _ One.u One.u One.u One.u One.u One.u One.u One.u (by omega) (by omega) X e' N D (by rw [own_dist, if_neg hc31])
      | succ n ih =>
        intro t T h locs htn X e' N D
        show Go p e below _ T (mkF m 52 #[.val (.ref fa), .val (.ref ta), .val (.int (own_I mx)), .val (.int ((own_I mx) + (1 : Int32))), .val (.ref ra), .val (.int (own_I t)), .unset, .unset, .unset, .unset, .unset, .unset, .unset, .unset] [])
        refine Go.of (fun _ kz => XS.iload X.here hx rfl (hb hby own_dd52) rfl kz) ?_
        show Go p e below _ T (mkF m 54 #[.val (.ref fa), .val (.ref ta), .val (.int (own_I mx)), .val (.int ((own_I mx) + (1 : Int32))), .val (.ref ra), .val (.int (own_I t)), .unset, .unset, .unset, .unset, .unset, .unset, .unset, .unset] [(.int (own_I t))])
        refine Go.of (fun _ kz => XS.aloadN X.here hx rfl (hb hby own_dd54) rfl rfl kz) ?_
        show Go p e below _ T (mkF m 55 #[.val (.ref fa), .val (.ref ta), .val (.int (own_I mx)), .val (.int ((own_I mx) + (1 : Int32))), .val (.ref ra), .val (.int (own_I t)), .unset, .unset, .unset, .unset, .unset, .unset, .unset, .unset] [(.ref ta), (.int (own_I t))])
        refine Go.len X hx hZ e' D.2.1 (hb hby own_dd55) ?_
        show Go p e below _ T (mkF m 56 #[.val (.ref fa), .val (.ref ta), .val (.int (own_I mx)), .val (.int ((own_I mx) + (1 : Int32))), .val (.ref ra), .val (.int (own_I t)), .unset, .unset, .unset, .unset, .unset, .unset, .unset, .unset] [(.int (own_I b)), (.int (own_I t))])
        refine Go.of (fun _ kz => XS.icmpNo X.here hx rfl (hb hby own_dd56) rfl (flt (fun z => absurd ((own_I_lt (by omega) (by omega)).mp z) (by omega))).2.2.1 kz) ?_
        show Go p e below _ T (mkF m 59 #[.val (.ref fa), .val (.ref ta), .val (.int (own_I mx)), .val (.int ((own_I mx) + (1 : Int32))), .val (.ref ra), .val (.int (own_I t)), .unset, .unset, .unset, .unset, .unset, .unset, .unset, .unset] [])
        refine Go.of (fun _ kz => XS.aload X.here hx rfl (hb hby own_dd59) rfl rfl kz) ?_
        show Go p e below _ T (mkF m 61 #[.val (.ref fa), .val (.ref ta), .val (.int (own_I mx)), .val (.int ((own_I mx) + (1 : Int32))), .val (.ref ra), .val (.int (own_I t)), .unset, .unset, .unset, .unset, .unset, .unset, .unset, .unset] [(.ref ra)])
        refine Go.of (fun _ kz => XS.iconst X.here hx rfl (hb hby own_dd61) kz) ?_
        show Go p e below _ T (mkF m 62 #[.val (.ref fa), .val (.ref ta), .val (.int (own_I mx)), .val (.int ((own_I mx) + (1 : Int32))), .val (.ref ra), .val (.int (own_I t)), .unset, .unset, .unset, .unset, .unset, .unset, .unset, .unset] [(.int (0 : Int32)), (.ref ra)])
        show Go p e below _ T (mkF m 62 #[.val (.ref fa), .val (.ref ta), .val (.int (own_I mx)), .val (.int ((own_I mx) + (1 : Int32))), .val (.ref ra), .val (.int (own_I t)), .unset, .unset, .unset, .unset, .unset, .unset, .unset, .unset] [(.int (own_I 0)), (.ref ra)])
        refine Go.grow X hx hZ e' D (r := 0) (by omega) (by omega) (hb hby own_dd62) ?_
        show Go p e below _ T (mkF m 63 #[.val (.ref fa), .val (.ref ta), .val (.int (own_I mx)), .val (.int ((own_I mx) + (1 : Int32))), .val (.ref ra), .val (.int (own_I t)), .unset, .unset, .unset, .unset, .unset, .unset, .unset, .unset] [(.ref (ra + 1 + 0))])
        refine Go.of (fun _ kz => XS.iload X.here hx rfl (hb hby own_dd63) rfl kz) ?_
        show Go p e below _ T (mkF m 65 #[.val (.ref fa), .val (.ref ta), .val (.int (own_I mx)), .val (.int ((own_I mx) + (1 : Int32))), .val (.ref ra), .val (.int (own_I t)), .unset, .unset, .unset, .unset, .unset, .unset, .unset, .unset] [(.int (own_I t)), (.ref (ra + 1 + 0))])
        refine Go.of (fun _ kz => XS.iload X.here hx rfl (hb hby own_dd65) rfl kz) ?_
        show Go p e below _ T (mkF m 67 #[.val (.ref fa), .val (.ref ta), .val (.int (own_I mx)), .val (.int ((own_I mx) + (1 : Int32))), .val (.ref ra), .val (.int (own_I t)), .unset, .unset, .unset, .unset, .unset, .unset, .unset, .unset] [(.int (own_I t)), (.int (own_I t)), (.ref (ra + 1 + 0))])
        refine Go.of (fun _ kz => XS.iloadN X.here hx rfl (hb hby own_dd67) rfl kz) ?_
        show Go p e below _ T (mkF m 68 #[.val (.ref fa), .val (.ref ta), .val (.int (own_I mx)), .val (.int ((own_I mx) + (1 : Int32))), .val (.ref ra), .val (.int (own_I t)), .unset, .unset, .unset, .unset, .unset, .unset, .unset, .unset] [(.int ((own_I mx) + (1 : Int32))), (.int (own_I t)), (.int (own_I t)), (.ref (ra + 1 + 0))])
        refine Go.callSP (W := 2) (y := (⟨"java/lang/Math", "min", "(II)I"⟩ : MethodName)) (argsL := [(.int (own_I t)), (.int ((own_I mx) + (1 : Int32)))]) (rest := [(.int (own_I t)), (.ref (ra + 1 + 0))]) (r := some (.int (own_min (own_I t) ((own_I mx) + (1 : Int32))))) X hx hZ hown (hw _ (List.mem_of_getElem? (i := 18) rfl)) (hw _ (List.mem_of_getElem? (i := 19) rfl)) (hw _ (List.mem_of_getElem? (i := 14) rfl)) (hw _ (List.mem_of_getElem? (i := 20) rfl)) (by decide) (own_rmMin l Z a0 hw (own_I t) ((own_I mx) + (1 : Int32)) h) e' (by rw [hml]; rfl) (lenOf own_dsc2 rfl) (hb hby own_dd68) rfl (Nat.le_of_eq rfl) (by decide) (by decide) (by decide) (by decide) fun T16 X16 e16 => ?_
        show Go p e below _ T16 (mkF m 71 #[.val (.ref fa), .val (.ref ta), .val (.int (own_I mx)), .val (.int ((own_I mx) + (1 : Int32))), .val (.ref ra), .val (.int (own_I t)), .unset, .unset, .unset, .unset, .unset, .unset, .unset, .unset] [(.int (own_min (own_I t) ((own_I mx) + (1 : Int32)))), (.int (own_I t)), (.ref (ra + 1 + 0))])
        refine Go.gstore X16 hx hZ e16 D (r := 0) (i := t) (by omega) (by omega) (by omega) (Nat.le_of_eq hra.symm) N (hb hby own_dd71) fun T17 h17 locs17 X17 e17 N17 D17 => ?_
        rw [own_G0_up] at D17
        show Go p e below _ T17 (mkF m 72 #[.val (.ref fa), .val (.ref ta), .val (.int (own_I mx)), .val (.int ((own_I mx) + (1 : Int32))), .val (.ref ra), .val (.int (own_I t)), .unset, .unset, .unset, .unset, .unset, .unset, .unset, .unset] [])
        refine Go.of (fun _ kz => XS.iinc X17.here hx rfl (hb hby own_dd72) rfl (l' := #[.val (.ref fa), .val (.ref ta), .val (.int (own_I mx)), .val (.int ((own_I mx) + (1 : Int32))), .val (.ref ra), .val (.int ((own_I t) + (1 : Int32))), .unset, .unset, .unset, .unset, .unset, .unset, .unset, .unset]) rfl kz) ?_
        show Go p e below _ T17 (mkF m 75 #[.val (.ref fa), .val (.ref ta), .val (.int (own_I mx)), .val (.int ((own_I mx) + (1 : Int32))), .val (.ref ra), .val (.int ((own_I t) + (1 : Int32))), .unset, .unset, .unset, .unset, .unset, .unset, .unset, .unset] [])
        rw [own_I_up t]
        show Go p e below _ T17 (mkF m 75 #[.val (.ref fa), .val (.ref ta), .val (.int (own_I mx)), .val (.int ((own_I mx) + (1 : Int32))), .val (.ref ra), .val (.int (own_I (t + 1))), .unset, .unset, .unset, .unset, .unset, .unset, .unset, .unset] [])
        refine Go.of (fun _ kz => XS.goto X17.here hx rfl (pc0 := 75) (pc' := 52) rfl (hb hby own_dd75) (by decide) (by decide) kz) ?_
        show Go p e below _ T17 (mkF m 52 #[.val (.ref fa), .val (.ref ta), .val (.int (own_I mx)), .val (.int ((own_I mx) + (1 : Int32))), .val (.ref ra), .val (.int (own_I (t + 1))), .unset, .unset, .unset, .unset, .unset, .unset, .unset, .unset] [])
        exact ih (t + 1) T17 h17 _ (by omega) X17 e17 N17 D17
    show Go p e below _ T (mkF m 47 #[.val (.ref fa), .val (.ref ta), .val (.int (own_I mx)), .val (.int ((own_I mx) + (1 : Int32))), .unset, .unset, .unset, .unset, .unset, .unset, .unset, .unset, .unset, .unset] [(.ref ra)])
    refine Go.of (fun _ kz => XS.astore X.here hx rfl (hb hby own_dd47) rfl rfl (l' := #[.val (.ref fa), .val (.ref ta), .val (.int (own_I mx)), .val (.int ((own_I mx) + (1 : Int32))), .val (.ref ra), .unset, .unset, .unset, .unset, .unset, .unset, .unset, .unset, .unset]) rfl kz) ?_
    show Go p e below _ T (mkF m 49 #[.val (.ref fa), .val (.ref ta), .val (.int (own_I mx)), .val (.int ((own_I mx) + (1 : Int32))), .val (.ref ra), .unset, .unset, .unset, .unset, .unset, .unset, .unset, .unset, .unset] [])
    refine Go.of (fun _ kz => XS.iconst X.here hx rfl (hb hby own_dd49) kz) ?_
    show Go p e below _ T (mkF m 50 #[.val (.ref fa), .val (.ref ta), .val (.int (own_I mx)), .val (.int ((own_I mx) + (1 : Int32))), .val (.ref ra), .unset, .unset, .unset, .unset, .unset, .unset, .unset, .unset, .unset] [(.int (0 : Int32))])
    refine Go.of (fun _ kz => XS.istore X.here hx rfl (hb hby own_dd50) rfl (l' := #[.val (.ref fa), .val (.ref ta), .val (.int (own_I mx)), .val (.int ((own_I mx) + (1 : Int32))), .val (.ref ra), .val (.int (0 : Int32)), .unset, .unset, .unset, .unset, .unset, .unset, .unset, .unset]) rfl kz) ?_
    show Go p e below _ T (mkF m 52 #[.val (.ref fa), .val (.ref ta), .val (.int (own_I mx)), .val (.int ((own_I mx) + (1 : Int32))), .val (.ref ra), .val (.int (0 : Int32)), .unset, .unset, .unset, .unset, .unset, .unset, .unset, .unset] [])
    exact init (b + 1) 0 T h _ (by omega) X e' (Fr.nil _) D
theorem own_kd0 : decode method_3_code 0 = .ok (.iload_n 0, 1) := by decide +kernel
theorem own_kd1 : decode method_3_code 1 = .ok (.ifCond .ne 7, 3) := by decide +kernel
theorem own_kd4 : decode method_3_code 4 = .ok (.iconst 0, 1) := by decide +kernel
theorem own_kd5 : decode method_3_code 5 = .ok (.newarray .int, 2) := by decide +kernel
theorem own_kd7 : decode method_3_code 7 = .ok (.areturn, 1) := by decide +kernel
theorem own_kd8 : decode method_3_code 8 = .ok (.iload_n 0, 1) := by decide +kernel
theorem own_kd9 : decode method_3_code 9 = .ok (.iconst 1, 1) := by decide +kernel
theorem own_kd10 : decode method_3_code 10 = .ok (.if_icmp .ne 11, 3) := by decide +kernel
theorem own_kd13 : decode method_3_code 13 = .ok (.iconst 1, 1) := by decide +kernel
theorem own_kd14 : decode method_3_code 14 = .ok (.newarray .int, 2) := by decide +kernel
theorem own_kd16 : decode method_3_code 16 = .ok (.dup, 1) := by decide +kernel
theorem own_kd17 : decode method_3_code 17 = .ok (.iconst 0, 1) := by decide +kernel
theorem own_kd18 : decode method_3_code 18 = .ok (.iload_n 1, 1) := by decide +kernel
theorem own_kd19 : decode method_3_code 19 = .ok (.iastore, 1) := by decide +kernel
theorem own_kd20 : decode method_3_code 20 = .ok (.areturn, 1) := by decide +kernel
theorem own_kd21 : decode method_3_code 21 = .ok (.iconst 2, 1) := by decide +kernel
theorem own_kd22 : decode method_3_code 22 = .ok (.newarray .int, 2) := by decide +kernel
theorem own_kd24 : decode method_3_code 24 = .ok (.dup, 1) := by decide +kernel
theorem own_kd25 : decode method_3_code 25 = .ok (.iconst 0, 1) := by decide +kernel
theorem own_kd26 : decode method_3_code 26 = .ok (.iload_n 1, 1) := by decide +kernel
theorem own_kd27 : decode method_3_code 27 = .ok (.iastore, 1) := by decide +kernel
theorem own_kd28 : decode method_3_code 28 = .ok (.dup, 1) := by decide +kernel
theorem own_kd29 : decode method_3_code 29 = .ok (.iconst 1, 1) := by decide +kernel
theorem own_kd30 : decode method_3_code 30 = .ok (.iload_n 2, 1) := by decide +kernel
theorem own_kd31 : decode method_3_code 31 = .ok (.iastore, 1) := by decide +kernel
theorem own_kd32 : decode method_3_code 32 = .ok (.areturn, 1) := by decide +kernel
abbrev own_rmM_Q (Z : State) (nn : Nat) (u1 u2 : Int32) (h0 : Heap) : Option Value → Heap → List Loc → Prop := fun v h L => ∃ b kb, v = some (.ref b) ∧ Fr h0.size L ∧ Keep h0 h [] ∧ h0.size ≤ b ∧ Arv Z h b kb .int (own_I nn) (own_row nn (fun i => [u1, u2].getD i 0)) (.int 0)
set_option maxRecDepth 65536 in
set_option maxHeartbeats 40000000 in
theorem own_rmM (l : Launch) (Z : State) (a0 : Array Value) (hw : ∀ d ∈ tables_1, d.before a0 Z = true) (nn : Nat) (u1 u2 : Int32) (h0 : Heap) (hnn : nn ≤ 2) :
    MetFree l (⟨"com/example/keen_guess/keenguess/edit/EditDistanceDistancePinLaw", "make", "(III)[I"⟩ : MethodName) (head1 [Jvm.Cond.code (⟨"com/example/keen_guess/keenguess/edit/EditDistanceDistancePinLaw", "make", "(III)[I"⟩ : MethodName) method_3_code 3 (some (.array .int))] ({ frames := 0, cells := 1, slots := 2, locals := 0 } : Room)) (fun aa U => aa = #[(.int (own_I nn)), (.int u1), (.int u2)] ∧ Z.Warmed39 U.vm ∧ U.heap = h0) (fun _ _ _ _ _ => True) (fun _ U o U' => ∃ v L, o = .returned v ∧ ((own_rmM_Q Z nn u1 u2 h0)) v U'.heap L ∧ FrameEnd U o U' L ({ frames := 0, cells := 1, slots := 2, locals := 0 } : Room).cells ({ frames := 0, cells := 1, slots := 2, locals := 0 } : Room).slots) := by
  refine goBody (y := (⟨"com/example/keen_guess/keenguess/edit/EditDistanceDistancePinLaw", "make", "(III)[I"⟩ : MethodName)) (Q := (own_rmM_Q Z nn u1 u2 h0)) (plainFor_of_name (by first | (simp [plainName, overriddenIn]; done) | decide +kernel)) ?_
  intro p e s m below meth c T0 hx hZ hby hml hown hnm hret hlk X0 e0
  have hown : s.vm.findClass "com/example/keen_guess/keenguess/edit/EditDistanceDistancePinLaw" = some m.cls := hown
  refine Go.cast (g' := mkF m 0 #[.val (.int (own_I nn)), .val (.int u1), .val (.int u2)] []) (by first | (simp [entryFrame, mkF, argsToLocals, Value.category]; done) | rfl) ?_
  show Go p e below _ T0 (mkF m 0 #[.val (.int (own_I nn)), .val (.int u1), .val (.int u2)] [])
  refine Go.of (fun _ kz => XS.iloadN X0.here hx rfl (hb hby own_kd0) rfl kz) ?_
  show Go p e below _ T0 (mkF m 1 #[.val (.int (own_I nn)), .val (.int u1), .val (.int u2)] [(.int (own_I nn))])
  by_cases hc1 : (own_I nn) = (0 : Int32)
  ·
    refine Go.of (fun _ kz => XS.ifNo X0.here hx rfl (hb hby own_kd1) rfl ((if0 _ _).trans (teq hc1).2) kz) ?_
    show Go p e below _ T0 (mkF m 4 #[.val (.int (own_I nn)), .val (.int u1), .val (.int u2)] [])
    refine Go.of (fun _ kz => XS.iconst X0.here hx rfl (hb hby own_kd4) kz) ?_
    show Go p e below _ T0 (mkF m 5 #[.val (.int (own_I nn)), .val (.int u1), .val (.int u2)] [(.int (0 : Int32))])
    refine Go.newarr X0 hx hZ (hw _ (List.mem_of_getElem? (i := 4) rfl)) e0 0 (by decide) (by decide) (by decide) (by decide) (by decide) (hb hby own_kd5) fun T1 h1 b1 k1 g1 X1 e1 E1 V1 => ?_
    have ge_b1 : h0.size ≤ b1 := g1 ▸ (Nat.le_refl _)
    have hs_b1 : h0.size ≤ b1 := g1 ▸ (Keep.refl h0 []).1
    have sz1 : h0.size ≤ h1.size := Nat.le_trans (Nat.le_refl _) E1.1
    have kp1 : Keep h0 h1 [] := (Keep.refl h0 []).ext E1
    have V1 : Arv Z h1 b1 k1 .int (0 : Int32) [] (.int (0 : Int32)) := V1
    show Go p e below _ T1 (mkF m 7 #[.val (.int (own_I nn)), .val (.int u1), .val (.int u2)] [(.ref b1)])
    exact Go.retA X1 hx hlk hret rfl rfl rfl (hb hby own_kd7) (by decide) (by decide) (by rw [e1]; exact ⟨b1, k1, rfl, (Fr.nil _), kp1, hs_b1, (by obtain rfl : nn = 0 := (own_I_eq (k := 0) (by omega) (by omega)).mp hc1; exact V1)⟩)
  ·
    refine Go.of (fun _ kz => XS.ifYes X0.here hx rfl (pc0 := 1) (pc' := 8) rfl (hb hby own_kd1) rfl ((if0 _ _).trans (feq hc1).2) (by decide) (by decide) kz) ?_
    show Go p e below _ T0 (mkF m 8 #[.val (.int (own_I nn)), .val (.int u1), .val (.int u2)] [])
    refine Go.of (fun _ kz => XS.iloadN X0.here hx rfl (hb hby own_kd8) rfl kz) ?_
    show Go p e below _ T0 (mkF m 9 #[.val (.int (own_I nn)), .val (.int u1), .val (.int u2)] [(.int (own_I nn))])
    refine Go.of (fun _ kz => XS.iconst X0.here hx rfl (hb hby own_kd9) kz) ?_
    show Go p e below _ T0 (mkF m 10 #[.val (.int (own_I nn)), .val (.int u1), .val (.int u2)] [(.int (1 : Int32)), (.int (own_I nn))])
    by_cases hc10 : (own_I nn) = (1 : Int32)
    ·
      refine Go.of (fun _ kz => XS.icmpNo X0.here hx rfl (hb hby own_kd10) rfl (teq hc10).2 kz) ?_
      show Go p e below _ T0 (mkF m 13 #[.val (.int (own_I nn)), .val (.int u1), .val (.int u2)] [])
      refine Go.of (fun _ kz => XS.iconst X0.here hx rfl (hb hby own_kd13) kz) ?_
      show Go p e below _ T0 (mkF m 14 #[.val (.int (own_I nn)), .val (.int u1), .val (.int u2)] [(.int (1 : Int32))])
      refine Go.newarr X0 hx hZ (hw _ (List.mem_of_getElem? (i := 4) rfl)) e0 1 (by decide) (by decide) (by decide) (by decide) (by decide) (hb hby own_kd14) fun T2 h2 b2 k2 g2 X2 e2 E2 V2 => ?_
      have ge_b2 : h0.size ≤ b2 := g2 ▸ (Nat.le_refl _)
      have hs_b2 : h0.size ≤ b2 := g2 ▸ (Keep.refl h0 []).1
      have sz2 : h0.size ≤ h2.size := Nat.le_trans (Nat.le_refl _) E2.1
      have kp2 : Keep h0 h2 [] := (Keep.refl h0 []).ext E2
      have V2 : Arv Z h2 b2 k2 .int (1 : Int32) [(.int (0 : Int32))] (.int (0 : Int32)) := V2
      show Go p e below _ T2 (mkF m 16 #[.val (.int (own_I nn)), .val (.int u1), .val (.int u2)] [(.ref b2)])
      refine Go.of (fun _ kz => XS.dup X2.here hx rfl (hb hby own_kd16) rfl rfl kz) ?_
      show Go p e below _ T2 (mkF m 17 #[.val (.int (own_I nn)), .val (.int u1), .val (.int u2)] [(.ref b2), (.ref b2)])
      refine Go.of (fun _ kz => XS.iconst X2.here hx rfl (hb hby own_kd17) kz) ?_
      show Go p e below _ T2 (mkF m 18 #[.val (.int (own_I nn)), .val (.int u1), .val (.int u2)] [(.int (0 : Int32)), (.ref b2), (.ref b2)])
      refine Go.of (fun _ kz => XS.iloadN X2.here hx rfl (hb hby own_kd18) rfl kz) ?_
      show Go p e below _ T2 (mkF m 19 #[.val (.int (own_I nn)), .val (.int u1), .val (.int u2)] [(.int u1), (.int (0 : Int32)), (.ref b2), (.ref b2)])
      refine Go.iastore X2 hx hZ e2 V2 ⟨by decide, by decide⟩ 0 rfl (Nat.le_of_ble_eq_true rfl) (hb hby own_kd19) fun T3 h3 X3 e3 W3 V3 => ?_
      have sz3 : h0.size ≤ h3.size := Nat.le_trans sz2 (Keep.of_wr W3).1
      have kp3 : Keep h0 h3 [] := kp2.wr W3 (Or.inr hs_b2)
      have N3 := Fr.snoc X3 (Fr.nil _) ge_b2
      have V3 : Arv Z h3 b2 k2 .int (1 : Int32) [(.int u1)] (.int (0 : Int32)) := V3
      show Go p e below _ T3 (mkF m 20 #[.val (.int (own_I nn)), .val (.int u1), .val (.int u2)] [(.ref b2)])
      exact Go.retA X3 hx hlk hret rfl rfl rfl (hb hby own_kd20) (by decide) (by decide) (by rw [e3]; exact ⟨b2, k2, rfl, N3, kp3, hs_b2, (by obtain rfl : nn = 1 := (own_I_eq (k := 1) (by omega) (by omega)).mp hc10; exact V3)⟩)
    ·
      refine Go.of (fun _ kz => XS.icmpYes X0.here hx rfl (pc0 := 10) (pc' := 21) rfl (hb hby own_kd10) rfl (feq hc10).2 (by decide) (by decide) kz) ?_
      show Go p e below _ T0 (mkF m 21 #[.val (.int (own_I nn)), .val (.int u1), .val (.int u2)] [])
      refine Go.of (fun _ kz => XS.iconst X0.here hx rfl (hb hby own_kd21) kz) ?_
      show Go p e below _ T0 (mkF m 22 #[.val (.int (own_I nn)), .val (.int u1), .val (.int u2)] [(.int (2 : Int32))])
      refine Go.newarr X0 hx hZ (hw _ (List.mem_of_getElem? (i := 4) rfl)) e0 2 (by decide) (by decide) (by decide) (by decide) (by decide) (hb hby own_kd22) fun T4 h4 b4 k4 g4 X4 e4 E4 V4 => ?_
      have ge_b4 : h0.size ≤ b4 := g4 ▸ (Nat.le_refl _)
      have hs_b4 : h0.size ≤ b4 := g4 ▸ (Keep.refl h0 []).1
      have sz4 : h0.size ≤ h4.size := Nat.le_trans (Nat.le_refl _) E4.1
      have kp4 : Keep h0 h4 [] := (Keep.refl h0 []).ext E4
      have V4 : Arv Z h4 b4 k4 .int (2 : Int32) [(.int (0 : Int32)), (.int (0 : Int32))] (.int (0 : Int32)) := V4
      show Go p e below _ T4 (mkF m 24 #[.val (.int (own_I nn)), .val (.int u1), .val (.int u2)] [(.ref b4)])
      refine Go.of (fun _ kz => XS.dup X4.here hx rfl (hb hby own_kd24) rfl rfl kz) ?_
      show Go p e below _ T4 (mkF m 25 #[.val (.int (own_I nn)), .val (.int u1), .val (.int u2)] [(.ref b4), (.ref b4)])
      refine Go.of (fun _ kz => XS.iconst X4.here hx rfl (hb hby own_kd25) kz) ?_
      show Go p e below _ T4 (mkF m 26 #[.val (.int (own_I nn)), .val (.int u1), .val (.int u2)] [(.int (0 : Int32)), (.ref b4), (.ref b4)])
      refine Go.of (fun _ kz => XS.iloadN X4.here hx rfl (hb hby own_kd26) rfl kz) ?_
      show Go p e below _ T4 (mkF m 27 #[.val (.int (own_I nn)), .val (.int u1), .val (.int u2)] [(.int u1), (.int (0 : Int32)), (.ref b4), (.ref b4)])
      refine Go.iastore X4 hx hZ e4 V4 ⟨by decide, by decide⟩ 0 rfl (Nat.le_of_ble_eq_true rfl) (hb hby own_kd27) fun T5 h5 X5 e5 W5 V5 => ?_
      have sz5 : h0.size ≤ h5.size := Nat.le_trans sz4 (Keep.of_wr W5).1
      have kp5 : Keep h0 h5 [] := kp4.wr W5 (Or.inr hs_b4)
      have N5 := Fr.snoc X5 (Fr.nil _) ge_b4
      have V5 : Arv Z h5 b4 k4 .int (2 : Int32) [(.int u1), (.int (0 : Int32))] (.int (0 : Int32)) := V5
      show Go p e below _ T5 (mkF m 28 #[.val (.int (own_I nn)), .val (.int u1), .val (.int u2)] [(.ref b4)])
      refine Go.of (fun _ kz => XS.dup X5.here hx rfl (hb hby own_kd28) rfl rfl kz) ?_
      show Go p e below _ T5 (mkF m 29 #[.val (.int (own_I nn)), .val (.int u1), .val (.int u2)] [(.ref b4), (.ref b4)])
      refine Go.of (fun _ kz => XS.iconst X5.here hx rfl (hb hby own_kd29) kz) ?_
      show Go p e below _ T5 (mkF m 30 #[.val (.int (own_I nn)), .val (.int u1), .val (.int u2)] [(.int (1 : Int32)), (.ref b4), (.ref b4)])
      refine Go.of (fun _ kz => XS.iloadN X5.here hx rfl (hb hby own_kd30) rfl kz) ?_
      show Go p e below _ T5 (mkF m 31 #[.val (.int (own_I nn)), .val (.int u1), .val (.int u2)] [(.int u2), (.int (1 : Int32)), (.ref b4), (.ref b4)])
      refine Go.iastore X5 hx hZ e5 V5 ⟨by decide, by decide⟩ 1 rfl (Nat.le_of_ble_eq_true rfl) (hb hby own_kd31) fun T6 h6 X6 e6 W6 V6 => ?_
      have sz6 : h0.size ≤ h6.size := Nat.le_trans sz5 (Keep.of_wr W6).1
      have kp6 : Keep h0 h6 [] := kp5.wr W6 (Or.inr hs_b4)
      have N6 := Fr.snoc X6 N5 ge_b4
      have V6 : Arv Z h6 b4 k4 .int (2 : Int32) [(.int u1), (.int u2)] (.int (0 : Int32)) := V6
      show Go p e below _ T6 (mkF m 32 #[.val (.int (own_I nn)), .val (.int u1), .val (.int u2)] [(.ref b4)])
      exact Go.retA X6 hx hlk hret rfl rfl rfl (hb hby own_kd32) (by decide) (by decide) (by rw [e6]; exact ⟨b4, k4, rfl, N6, kp6, hs_b4, (by obtain rfl : nn = 2 := own_two hnn (fun z => hc1 (by rw [z]; rfl)) (fun z => hc10 (by rw [z]; rfl)); exact V6)⟩)
theorem own_fd0 : decode method_4_code 0 = .ok (.iload_n 0, 1) := by decide +kernel
theorem own_fd1 : decode method_4_code 1 = .ok (.ifCond .ne 5, 3) := by decide +kernel
theorem own_fd4 : decode method_4_code 4 = .ok (.iload_n 1, 1) := by decide +kernel
theorem own_fd5 : decode method_4_code 5 = .ok (.ireturn, 1) := by decide +kernel
theorem own_fd6 : decode method_4_code 6 = .ok (.iload_n 1, 1) := by decide +kernel
theorem own_fd7 : decode method_4_code 7 = .ok (.ifCond .ne 5, 3) := by decide +kernel
theorem own_fd10 : decode method_4_code 10 = .ok (.iload_n 0, 1) := by decide +kernel
theorem own_fd11 : decode method_4_code 11 = .ok (.ireturn, 1) := by decide +kernel
theorem own_fd12 : decode method_4_code 12 = .ok (.iload_n 0, 1) := by decide +kernel
theorem own_fd13 : decode method_4_code 13 = .ok (.iconst 1, 1) := by decide +kernel
theorem own_fd14 : decode method_4_code 14 = .ok (.if_icmp .ne 20, 3) := by decide +kernel
theorem own_fd17 : decode method_4_code 17 = .ok (.iload_n 1, 1) := by decide +kernel
theorem own_fd18 : decode method_4_code 18 = .ok (.iconst 1, 1) := by decide +kernel
theorem own_fd19 : decode method_4_code 19 = .ok (.if_icmp .ne 15, 3) := by decide +kernel
theorem own_fd22 : decode method_4_code 22 = .ok (.iload_n 2, 1) := by decide +kernel
theorem own_fd23 : decode method_4_code 23 = .ok (.iload 4, 2) := by decide +kernel
theorem own_fd25 : decode method_4_code 25 = .ok (.if_icmp .ne 7, 3) := by decide +kernel
theorem own_fd28 : decode method_4_code 28 = .ok (.iconst 0, 1) := by decide +kernel
theorem own_fd29 : decode method_4_code 29 = .ok (.goto 4, 3) := by decide +kernel
theorem own_fd32 : decode method_4_code 32 = .ok (.iconst 1, 1) := by decide +kernel
theorem own_fd33 : decode method_4_code 33 = .ok (.ireturn, 1) := by decide +kernel
theorem own_fd34 : decode method_4_code 34 = .ok (.iload_n 0, 1) := by decide +kernel
theorem own_fd35 : decode method_4_code 35 = .ok (.iconst 1, 1) := by decide +kernel
theorem own_fd36 : decode method_4_code 36 = .ok (.if_icmp .ne 21, 3) := by decide +kernel
theorem own_fd39 : decode method_4_code 39 = .ok (.iload_n 2, 1) := by decide +kernel
theorem own_fd40 : decode method_4_code 40 = .ok (.iload 4, 2) := by decide +kernel
theorem own_fd42 : decode method_4_code 42 = .ok (.if_icmp .eq 9, 3) := by decide +kernel
theorem own_fd45 : decode method_4_code 45 = .ok (.iload_n 2, 1) := by decide +kernel
theorem own_fd46 : decode method_4_code 46 = .ok (.iload 5, 2) := by decide +kernel
theorem own_fd48 : decode method_4_code 48 = .ok (.if_icmp .ne 7, 3) := by decide +kernel
theorem own_fd51 : decode method_4_code 51 = .ok (.iconst 1, 1) := by decide +kernel
theorem own_fd52 : decode method_4_code 52 = .ok (.goto 4, 3) := by decide +kernel
theorem own_fd55 : decode method_4_code 55 = .ok (.iconst 2, 1) := by decide +kernel
theorem own_fd56 : decode method_4_code 56 = .ok (.ireturn, 1) := by decide +kernel
theorem own_fd57 : decode method_4_code 57 = .ok (.iload_n 1, 1) := by decide +kernel
theorem own_fd58 : decode method_4_code 58 = .ok (.iconst 1, 1) := by decide +kernel
theorem own_fd59 : decode method_4_code 59 = .ok (.if_icmp .ne 21, 3) := by decide +kernel
theorem own_fd62 : decode method_4_code 62 = .ok (.iload 4, 2) := by decide +kernel
theorem own_fd64 : decode method_4_code 64 = .ok (.iload_n 2, 1) := by decide +kernel
theorem own_fd65 : decode method_4_code 65 = .ok (.if_icmp .eq 9, 3) := by decide +kernel
theorem own_fd68 : decode method_4_code 68 = .ok (.iload 4, 2) := by decide +kernel
theorem own_fd70 : decode method_4_code 70 = .ok (.iload_n 3, 1) := by decide +kernel
theorem own_fd71 : decode method_4_code 71 = .ok (.if_icmp .ne 7, 3) := by decide +kernel
theorem own_fd74 : decode method_4_code 74 = .ok (.iconst 1, 1) := by decide +kernel
theorem own_fd75 : decode method_4_code 75 = .ok (.goto 4, 3) := by decide +kernel
theorem own_fd78 : decode method_4_code 78 = .ok (.iconst 2, 1) := by decide +kernel
theorem own_fd79 : decode method_4_code 79 = .ok (.ireturn, 1) := by decide +kernel
theorem own_fd80 : decode method_4_code 80 = .ok (.iload_n 2, 1) := by decide +kernel
theorem own_fd81 : decode method_4_code 81 = .ok (.iload 4, 2) := by decide +kernel
theorem own_fd83 : decode method_4_code 83 = .ok (.if_icmp .ne 11, 3) := by decide +kernel
theorem own_fd86 : decode method_4_code 86 = .ok (.iload_n 3, 1) := by decide +kernel
theorem own_fd87 : decode method_4_code 87 = .ok (.iload 5, 2) := by decide +kernel
theorem own_fd89 : decode method_4_code 89 = .ok (.if_icmp .ne 5, 3) := by decide +kernel
theorem own_fd92 : decode method_4_code 92 = .ok (.iconst 0, 1) := by decide +kernel
theorem own_fd93 : decode method_4_code 93 = .ok (.ireturn, 1) := by decide +kernel
theorem own_fd94 : decode method_4_code 94 = .ok (.iload_n 2, 1) := by decide +kernel
theorem own_fd95 : decode method_4_code 95 = .ok (.iload 4, 2) := by decide +kernel
theorem own_fd97 : decode method_4_code 97 = .ok (.if_icmp .eq 9, 3) := by decide +kernel
theorem own_fd100 : decode method_4_code 100 = .ok (.iload_n 3, 1) := by decide +kernel
theorem own_fd101 : decode method_4_code 101 = .ok (.iload 5, 2) := by decide +kernel
theorem own_fd103 : decode method_4_code 103 = .ok (.if_icmp .ne 5, 3) := by decide +kernel
theorem own_fd106 : decode method_4_code 106 = .ok (.iconst 1, 1) := by decide +kernel
theorem own_fd107 : decode method_4_code 107 = .ok (.ireturn, 1) := by decide +kernel
theorem own_fd108 : decode method_4_code 108 = .ok (.iload_n 2, 1) := by decide +kernel
theorem own_fd109 : decode method_4_code 109 = .ok (.iload 5, 2) := by decide +kernel
theorem own_fd111 : decode method_4_code 111 = .ok (.if_icmp .ne 11, 3) := by decide +kernel
theorem own_fd114 : decode method_4_code 114 = .ok (.iload_n 3, 1) := by decide +kernel
theorem own_fd115 : decode method_4_code 115 = .ok (.iload 4, 2) := by decide +kernel
theorem own_fd117 : decode method_4_code 117 = .ok (.if_icmp .ne 5, 3) := by decide +kernel
theorem own_fd120 : decode method_4_code 120 = .ok (.iconst 1, 1) := by decide +kernel
theorem own_fd121 : decode method_4_code 121 = .ok (.ireturn, 1) := by decide +kernel
theorem own_fd122 : decode method_4_code 122 = .ok (.iconst 2, 1) := by decide +kernel
theorem own_fd123 : decode method_4_code 123 = .ok (.ireturn, 1) := by decide +kernel
set_option maxRecDepth 65536 in
set_option maxHeartbeats 40000000 in
theorem own_rmF (l : Launch) (Z : State) (a0 : Array Value) (hw : ∀ d ∈ tables_1, d.before a0 Z = true) (a b x1 x2 y1 y2 : Int32) (h0 : Heap)  :
    MetFree l (⟨"com/example/keen_guess/keenguess/edit/EditDistanceDistancePinLaw", "reference", "(IIIIII)I"⟩ : MethodName) (head1 [Jvm.Cond.code (⟨"com/example/keen_guess/keenguess/edit/EditDistanceDistancePinLaw", "reference", "(IIIIII)I"⟩ : MethodName) method_4_code 6 (some .int)] ({ frames := 0, cells := 0, slots := 0, locals := 0 } : Room)) (fun aa U => aa = #[(.int a), (.int b), (.int x1), (.int x2), (.int y1), (.int y2)] ∧ Z.Warmed39 U.vm ∧ U.heap = h0) (fun _ _ _ _ _ => True) (fun _ U o U' => ∃ v L, o = .returned v ∧ (PQ h0 (some (.int (own_ref a b x1 x2 y1 y2)))) v U'.heap L ∧ FrameEnd U o U' L ({ frames := 0, cells := 0, slots := 0, locals := 0 } : Room).cells ({ frames := 0, cells := 0, slots := 0, locals := 0 } : Room).slots) := by
  refine goBody (y := (⟨"com/example/keen_guess/keenguess/edit/EditDistanceDistancePinLaw", "reference", "(IIIIII)I"⟩ : MethodName)) (Q := PQ h0 (some (.int (own_ref a b x1 x2 y1 y2)))) (plainFor_of_name (by first | (simp [plainName, overriddenIn]; done) | decide +kernel)) ?_
  intro p e s m below meth c T0 hx hZ hby hml hown hnm hret hlk X0 e0
  have hown : s.vm.findClass "com/example/keen_guess/keenguess/edit/EditDistanceDistancePinLaw" = some m.cls := hown
  refine Go.cast (g' := mkF m 0 #[.val (.int a), .val (.int b), .val (.int x1), .val (.int x2), .val (.int y1), .val (.int y2)] []) (by first | (simp [entryFrame, mkF, argsToLocals, Value.category]; done) | rfl) ?_
  show Go p e below _ T0 (mkF m 0 #[.val (.int a), .val (.int b), .val (.int x1), .val (.int x2), .val (.int y1), .val (.int y2)] [])
  refine Go.of (fun _ kz => XS.iloadN X0.here hx rfl (hb hby own_fd0) rfl kz) ?_
  show Go p e below _ T0 (mkF m 1 #[.val (.int a), .val (.int b), .val (.int x1), .val (.int x2), .val (.int y1), .val (.int y2)] [(.int a)])
  by_cases hc1 : a = (0 : Int32)
  ·
    refine Go.of (fun _ kz => XS.ifNo X0.here hx rfl (hb hby own_fd1) rfl ((if0 _ _).trans (teq hc1).2) kz) ?_
    show Go p e below _ T0 (mkF m 4 #[.val (.int a), .val (.int b), .val (.int x1), .val (.int x2), .val (.int y1), .val (.int y2)] [])
    refine Go.of (fun _ kz => XS.iloadN X0.here hx rfl (hb hby own_fd4) rfl kz) ?_
    show Go p e below _ T0 (mkF m 5 #[.val (.int a), .val (.int b), .val (.int x1), .val (.int x2), .val (.int y1), .val (.int y2)] [(.int b)])
    exact Go.retI X0 hx hlk hret (hb hby own_fd5) (by decide) (by decide) ⟨congrArg (fun z => some (Value.int z)) (show b = own_ref a b x1 x2 y1 y2 by simp only [own_ref, own_ref34, own_ref94, if_pos hc1]), rfl, e0⟩
  ·
    refine Go.of (fun _ kz => XS.ifYes X0.here hx rfl (pc0 := 1) (pc' := 6) rfl (hb hby own_fd1) rfl ((if0 _ _).trans (feq hc1).2) (by decide) (by decide) kz) ?_
    show Go p e below _ T0 (mkF m 6 #[.val (.int a), .val (.int b), .val (.int x1), .val (.int x2), .val (.int y1), .val (.int y2)] [])
    refine Go.of (fun _ kz => XS.iloadN X0.here hx rfl (hb hby own_fd6) rfl kz) ?_
    show Go p e below _ T0 (mkF m 7 #[.val (.int a), .val (.int b), .val (.int x1), .val (.int x2), .val (.int y1), .val (.int y2)] [(.int b)])
    by_cases hc7 : b = (0 : Int32)
    ·
      refine Go.of (fun _ kz => XS.ifNo X0.here hx rfl (hb hby own_fd7) rfl ((if0 _ _).trans (teq hc7).2) kz) ?_
      show Go p e below _ T0 (mkF m 10 #[.val (.int a), .val (.int b), .val (.int x1), .val (.int x2), .val (.int y1), .val (.int y2)] [])
      refine Go.of (fun _ kz => XS.iloadN X0.here hx rfl (hb hby own_fd10) rfl kz) ?_
      show Go p e below _ T0 (mkF m 11 #[.val (.int a), .val (.int b), .val (.int x1), .val (.int x2), .val (.int y1), .val (.int y2)] [(.int a)])
      exact Go.retI X0 hx hlk hret (hb hby own_fd11) (by decide) (by decide) ⟨congrArg (fun z => some (Value.int z)) (show a = own_ref a b x1 x2 y1 y2 by simp only [own_ref, own_ref34, own_ref94, if_neg hc1, if_pos hc7]), rfl, e0⟩
    ·
      refine Go.of (fun _ kz => XS.ifYes X0.here hx rfl (pc0 := 7) (pc' := 12) rfl (hb hby own_fd7) rfl ((if0 _ _).trans (feq hc7).2) (by decide) (by decide) kz) ?_
      show Go p e below _ T0 (mkF m 12 #[.val (.int a), .val (.int b), .val (.int x1), .val (.int x2), .val (.int y1), .val (.int y2)] [])
      refine Go.of (fun _ kz => XS.iloadN X0.here hx rfl (hb hby own_fd12) rfl kz) ?_
      show Go p e below _ T0 (mkF m 13 #[.val (.int a), .val (.int b), .val (.int x1), .val (.int x2), .val (.int y1), .val (.int y2)] [(.int a)])
      refine Go.of (fun _ kz => XS.iconst X0.here hx rfl (hb hby own_fd13) kz) ?_
      show Go p e below _ T0 (mkF m 14 #[.val (.int a), .val (.int b), .val (.int x1), .val (.int x2), .val (.int y1), .val (.int y2)] [(.int (1 : Int32)), (.int a)])
      by_cases hc14 : a = (1 : Int32)
      ·
        refine Go.of (fun _ kz => XS.icmpNo X0.here hx rfl (hb hby own_fd14) rfl (teq hc14).2 kz) ?_
        show Go p e below _ T0 (mkF m 17 #[.val (.int a), .val (.int b), .val (.int x1), .val (.int x2), .val (.int y1), .val (.int y2)] [])
        refine Go.of (fun _ kz => XS.iloadN X0.here hx rfl (hb hby own_fd17) rfl kz) ?_
        show Go p e below _ T0 (mkF m 18 #[.val (.int a), .val (.int b), .val (.int x1), .val (.int x2), .val (.int y1), .val (.int y2)] [(.int b)])
        refine Go.of (fun _ kz => XS.iconst X0.here hx rfl (hb hby own_fd18) kz) ?_
        show Go p e below _ T0 (mkF m 19 #[.val (.int a), .val (.int b), .val (.int x1), .val (.int x2), .val (.int y1), .val (.int y2)] [(.int (1 : Int32)), (.int b)])
        by_cases hc19 : b = (1 : Int32)
        ·
          refine Go.of (fun _ kz => XS.icmpNo X0.here hx rfl (hb hby own_fd19) rfl (teq hc19).2 kz) ?_
          show Go p e below _ T0 (mkF m 22 #[.val (.int a), .val (.int b), .val (.int x1), .val (.int x2), .val (.int y1), .val (.int y2)] [])
          refine Go.of (fun _ kz => XS.iloadN X0.here hx rfl (hb hby own_fd22) rfl kz) ?_
          show Go p e below _ T0 (mkF m 23 #[.val (.int a), .val (.int b), .val (.int x1), .val (.int x2), .val (.int y1), .val (.int y2)] [(.int x1)])
          refine Go.of (fun _ kz => XS.iload X0.here hx rfl (hb hby own_fd23) rfl kz) ?_
          show Go p e below _ T0 (mkF m 25 #[.val (.int a), .val (.int b), .val (.int x1), .val (.int x2), .val (.int y1), .val (.int y2)] [(.int y1), (.int x1)])
          by_cases hc25 : x1 = y1
          ·
            refine Go.of (fun _ kz => XS.icmpNo X0.here hx rfl (hb hby own_fd25) rfl (teq hc25).2 kz) ?_
            show Go p e below _ T0 (mkF m 28 #[.val (.int a), .val (.int b), .val (.int x1), .val (.int x2), .val (.int y1), .val (.int y2)] [])
            refine Go.of (fun _ kz => XS.iconst X0.here hx rfl (hb hby own_fd28) kz) ?_
            show Go p e below _ T0 (mkF m 29 #[.val (.int a), .val (.int b), .val (.int x1), .val (.int x2), .val (.int y1), .val (.int y2)] [(.int (0 : Int32))])
            refine Go.of (fun _ kz => XS.goto X0.here hx rfl (pc0 := 29) (pc' := 33) rfl (hb hby own_fd29) (by decide) (by decide) kz) ?_
            show Go p e below _ T0 (mkF m 33 #[.val (.int a), .val (.int b), .val (.int x1), .val (.int x2), .val (.int y1), .val (.int y2)] [(.int (0 : Int32))])
            exact Go.retI X0 hx hlk hret (hb hby own_fd33) (by decide) (by decide) ⟨congrArg (fun z => some (Value.int z)) (show (0 : Int32) = own_ref a b x1 x2 y1 y2 by simp only [own_ref, own_ref34, own_ref94, if_neg hc1, if_neg hc7, if_pos hc14, if_pos hc19, if_pos hc25]), rfl, e0⟩
          ·
            refine Go.of (fun _ kz => XS.icmpYes X0.here hx rfl (pc0 := 25) (pc' := 32) rfl (hb hby own_fd25) rfl (feq hc25).2 (by decide) (by decide) kz) ?_
            show Go p e below _ T0 (mkF m 32 #[.val (.int a), .val (.int b), .val (.int x1), .val (.int x2), .val (.int y1), .val (.int y2)] [])
            refine Go.of (fun _ kz => XS.iconst X0.here hx rfl (hb hby own_fd32) kz) ?_
            show Go p e below _ T0 (mkF m 33 #[.val (.int a), .val (.int b), .val (.int x1), .val (.int x2), .val (.int y1), .val (.int y2)] [(.int (1 : Int32))])
            exact Go.retI X0 hx hlk hret (hb hby own_fd33) (by decide) (by decide) ⟨congrArg (fun z => some (Value.int z)) (show (1 : Int32) = own_ref a b x1 x2 y1 y2 by simp only [own_ref, own_ref34, own_ref94, if_neg hc1, if_neg hc7, if_pos hc14, if_pos hc19, if_neg hc25]), rfl, e0⟩
        ·
          refine Go.of (fun _ kz => XS.icmpYes X0.here hx rfl (pc0 := 19) (pc' := 34) rfl (hb hby own_fd19) rfl (feq hc19).2 (by decide) (by decide) kz) ?_
          show Go p e below _ T0 (mkF m 34 #[.val (.int a), .val (.int b), .val (.int x1), .val (.int x2), .val (.int y1), .val (.int y2)] [])
          refine Go.of (fun _ kz => XS.iloadN X0.here hx rfl (hb hby own_fd34) rfl kz) ?_
          show Go p e below _ T0 (mkF m 35 #[.val (.int a), .val (.int b), .val (.int x1), .val (.int x2), .val (.int y1), .val (.int y2)] [(.int a)])
          refine Go.of (fun _ kz => XS.iconst X0.here hx rfl (hb hby own_fd35) kz) ?_
          show Go p e below _ T0 (mkF m 36 #[.val (.int a), .val (.int b), .val (.int x1), .val (.int x2), .val (.int y1), .val (.int y2)] [(.int (1 : Int32)), (.int a)])
          refine Go.of (fun _ kz => XS.icmpNo X0.here hx rfl (hb hby own_fd36) rfl (teq hc14).2 kz) ?_
          show Go p e below _ T0 (mkF m 39 #[.val (.int a), .val (.int b), .val (.int x1), .val (.int x2), .val (.int y1), .val (.int y2)] [])
          refine Go.of (fun _ kz => XS.iloadN X0.here hx rfl (hb hby own_fd39) rfl kz) ?_
          show Go p e below _ T0 (mkF m 40 #[.val (.int a), .val (.int b), .val (.int x1), .val (.int x2), .val (.int y1), .val (.int y2)] [(.int x1)])
          refine Go.of (fun _ kz => XS.iload X0.here hx rfl (hb hby own_fd40) rfl kz) ?_
          show Go p e below _ T0 (mkF m 42 #[.val (.int a), .val (.int b), .val (.int x1), .val (.int x2), .val (.int y1), .val (.int y2)] [(.int y1), (.int x1)])
          by_cases hc42 : x1 = y1
          ·
            refine Go.of (fun _ kz => XS.icmpYes X0.here hx rfl (pc0 := 42) (pc' := 51) rfl (hb hby own_fd42) rfl (teq hc42).1 (by decide) (by decide) kz) ?_
            show Go p e below _ T0 (mkF m 51 #[.val (.int a), .val (.int b), .val (.int x1), .val (.int x2), .val (.int y1), .val (.int y2)] [])
            refine Go.of (fun _ kz => XS.iconst X0.here hx rfl (hb hby own_fd51) kz) ?_
            show Go p e below _ T0 (mkF m 52 #[.val (.int a), .val (.int b), .val (.int x1), .val (.int x2), .val (.int y1), .val (.int y2)] [(.int (1 : Int32))])
            refine Go.of (fun _ kz => XS.goto X0.here hx rfl (pc0 := 52) (pc' := 56) rfl (hb hby own_fd52) (by decide) (by decide) kz) ?_
            show Go p e below _ T0 (mkF m 56 #[.val (.int a), .val (.int b), .val (.int x1), .val (.int x2), .val (.int y1), .val (.int y2)] [(.int (1 : Int32))])
            exact Go.retI X0 hx hlk hret (hb hby own_fd56) (by decide) (by decide) ⟨congrArg (fun z => some (Value.int z)) (show (1 : Int32) = own_ref a b x1 x2 y1 y2 by simp only [own_ref, own_ref34, own_ref94, if_neg hc1, if_neg hc7, if_pos hc14, if_neg hc19, if_pos hc42]), rfl, e0⟩
          ·
            refine Go.of (fun _ kz => XS.icmpNo X0.here hx rfl (hb hby own_fd42) rfl (feq hc42).1 kz) ?_
            show Go p e below _ T0 (mkF m 45 #[.val (.int a), .val (.int b), .val (.int x1), .val (.int x2), .val (.int y1), .val (.int y2)] [])
            refine Go.of (fun _ kz => XS.iloadN X0.here hx rfl (hb hby own_fd45) rfl kz) ?_
            show Go p e below _ T0 (mkF m 46 #[.val (.int a), .val (.int b), .val (.int x1), .val (.int x2), .val (.int y1), .val (.int y2)] [(.int x1)])
            refine Go.of (fun _ kz => XS.iload X0.here hx rfl (hb hby own_fd46) rfl kz) ?_
            show Go p e below _ T0 (mkF m 48 #[.val (.int a), .val (.int b), .val (.int x1), .val (.int x2), .val (.int y1), .val (.int y2)] [(.int y2), (.int x1)])
            by_cases hc48 : x1 = y2
            ·
              refine Go.of (fun _ kz => XS.icmpNo X0.here hx rfl (hb hby own_fd48) rfl (teq hc48).2 kz) ?_
              show Go p e below _ T0 (mkF m 51 #[.val (.int a), .val (.int b), .val (.int x1), .val (.int x2), .val (.int y1), .val (.int y2)] [])
              refine Go.of (fun _ kz => XS.iconst X0.here hx rfl (hb hby own_fd51) kz) ?_
              show Go p e below _ T0 (mkF m 52 #[.val (.int a), .val (.int b), .val (.int x1), .val (.int x2), .val (.int y1), .val (.int y2)] [(.int (1 : Int32))])
              refine Go.of (fun _ kz => XS.goto X0.here hx rfl (pc0 := 52) (pc' := 56) rfl (hb hby own_fd52) (by decide) (by decide) kz) ?_
              show Go p e below _ T0 (mkF m 56 #[.val (.int a), .val (.int b), .val (.int x1), .val (.int x2), .val (.int y1), .val (.int y2)] [(.int (1 : Int32))])
              exact Go.retI X0 hx hlk hret (hb hby own_fd56) (by decide) (by decide) ⟨congrArg (fun z => some (Value.int z)) (show (1 : Int32) = own_ref a b x1 x2 y1 y2 by simp only [own_ref, own_ref34, own_ref94, if_neg hc1, if_neg hc7, if_pos hc14, if_neg hc19, if_neg hc42, if_pos hc48]), rfl, e0⟩
            ·
              refine Go.of (fun _ kz => XS.icmpYes X0.here hx rfl (pc0 := 48) (pc' := 55) rfl (hb hby own_fd48) rfl (feq hc48).2 (by decide) (by decide) kz) ?_
              show Go p e below _ T0 (mkF m 55 #[.val (.int a), .val (.int b), .val (.int x1), .val (.int x2), .val (.int y1), .val (.int y2)] [])
              refine Go.of (fun _ kz => XS.iconst X0.here hx rfl (hb hby own_fd55) kz) ?_
              show Go p e below _ T0 (mkF m 56 #[.val (.int a), .val (.int b), .val (.int x1), .val (.int x2), .val (.int y1), .val (.int y2)] [(.int (2 : Int32))])
              exact Go.retI X0 hx hlk hret (hb hby own_fd56) (by decide) (by decide) ⟨congrArg (fun z => some (Value.int z)) (show (2 : Int32) = own_ref a b x1 x2 y1 y2 by simp only [own_ref, own_ref34, own_ref94, if_neg hc1, if_neg hc7, if_pos hc14, if_neg hc19, if_neg hc42, if_neg hc48]), rfl, e0⟩
      ·
        refine Go.of (fun _ kz => XS.icmpYes X0.here hx rfl (pc0 := 14) (pc' := 34) rfl (hb hby own_fd14) rfl (feq hc14).2 (by decide) (by decide) kz) ?_
        show Go p e below _ T0 (mkF m 34 #[.val (.int a), .val (.int b), .val (.int x1), .val (.int x2), .val (.int y1), .val (.int y2)] [])
        refine Go.of (fun _ kz => XS.iloadN X0.here hx rfl (hb hby own_fd34) rfl kz) ?_
        show Go p e below _ T0 (mkF m 35 #[.val (.int a), .val (.int b), .val (.int x1), .val (.int x2), .val (.int y1), .val (.int y2)] [(.int a)])
        refine Go.of (fun _ kz => XS.iconst X0.here hx rfl (hb hby own_fd35) kz) ?_
        show Go p e below _ T0 (mkF m 36 #[.val (.int a), .val (.int b), .val (.int x1), .val (.int x2), .val (.int y1), .val (.int y2)] [(.int (1 : Int32)), (.int a)])
        refine Go.of (fun _ kz => XS.icmpYes X0.here hx rfl (pc0 := 36) (pc' := 57) rfl (hb hby own_fd36) rfl (feq hc14).2 (by decide) (by decide) kz) ?_
        show Go p e below _ T0 (mkF m 57 #[.val (.int a), .val (.int b), .val (.int x1), .val (.int x2), .val (.int y1), .val (.int y2)] [])
        refine Go.of (fun _ kz => XS.iloadN X0.here hx rfl (hb hby own_fd57) rfl kz) ?_
        show Go p e below _ T0 (mkF m 58 #[.val (.int a), .val (.int b), .val (.int x1), .val (.int x2), .val (.int y1), .val (.int y2)] [(.int b)])
        refine Go.of (fun _ kz => XS.iconst X0.here hx rfl (hb hby own_fd58) kz) ?_
        show Go p e below _ T0 (mkF m 59 #[.val (.int a), .val (.int b), .val (.int x1), .val (.int x2), .val (.int y1), .val (.int y2)] [(.int (1 : Int32)), (.int b)])
        by_cases hc59 : b = (1 : Int32)
        ·
          refine Go.of (fun _ kz => XS.icmpNo X0.here hx rfl (hb hby own_fd59) rfl (teq hc59).2 kz) ?_
          show Go p e below _ T0 (mkF m 62 #[.val (.int a), .val (.int b), .val (.int x1), .val (.int x2), .val (.int y1), .val (.int y2)] [])
          refine Go.of (fun _ kz => XS.iload X0.here hx rfl (hb hby own_fd62) rfl kz) ?_
          show Go p e below _ T0 (mkF m 64 #[.val (.int a), .val (.int b), .val (.int x1), .val (.int x2), .val (.int y1), .val (.int y2)] [(.int y1)])
          refine Go.of (fun _ kz => XS.iloadN X0.here hx rfl (hb hby own_fd64) rfl kz) ?_
          show Go p e below _ T0 (mkF m 65 #[.val (.int a), .val (.int b), .val (.int x1), .val (.int x2), .val (.int y1), .val (.int y2)] [(.int x1), (.int y1)])
          by_cases hc65 : y1 = x1
          ·
            refine Go.of (fun _ kz => XS.icmpYes X0.here hx rfl (pc0 := 65) (pc' := 74) rfl (hb hby own_fd65) rfl (teq hc65).1 (by decide) (by decide) kz) ?_
            show Go p e below _ T0 (mkF m 74 #[.val (.int a), .val (.int b), .val (.int x1), .val (.int x2), .val (.int y1), .val (.int y2)] [])
            refine Go.of (fun _ kz => XS.iconst X0.here hx rfl (hb hby own_fd74) kz) ?_
            show Go p e below _ T0 (mkF m 75 #[.val (.int a), .val (.int b), .val (.int x1), .val (.int x2), .val (.int y1), .val (.int y2)] [(.int (1 : Int32))])
            refine Go.of (fun _ kz => XS.goto X0.here hx rfl (pc0 := 75) (pc' := 79) rfl (hb hby own_fd75) (by decide) (by decide) kz) ?_
            show Go p e below _ T0 (mkF m 79 #[.val (.int a), .val (.int b), .val (.int x1), .val (.int x2), .val (.int y1), .val (.int y2)] [(.int (1 : Int32))])
            exact Go.retI X0 hx hlk hret (hb hby own_fd79) (by decide) (by decide) ⟨congrArg (fun z => some (Value.int z)) (show (1 : Int32) = own_ref a b x1 x2 y1 y2 by simp only [own_ref, own_ref34, own_ref94, if_neg hc1, if_neg hc7, if_neg hc14, if_pos hc59, if_pos hc65]), rfl, e0⟩
          ·
            refine Go.of (fun _ kz => XS.icmpNo X0.here hx rfl (hb hby own_fd65) rfl (feq hc65).1 kz) ?_
            show Go p e below _ T0 (mkF m 68 #[.val (.int a), .val (.int b), .val (.int x1), .val (.int x2), .val (.int y1), .val (.int y2)] [])
            refine Go.of (fun _ kz => XS.iload X0.here hx rfl (hb hby own_fd68) rfl kz) ?_
            show Go p e below _ T0 (mkF m 70 #[.val (.int a), .val (.int b), .val (.int x1), .val (.int x2), .val (.int y1), .val (.int y2)] [(.int y1)])
            refine Go.of (fun _ kz => XS.iloadN X0.here hx rfl (hb hby own_fd70) rfl kz) ?_
            show Go p e below _ T0 (mkF m 71 #[.val (.int a), .val (.int b), .val (.int x1), .val (.int x2), .val (.int y1), .val (.int y2)] [(.int x2), (.int y1)])
            by_cases hc71 : y1 = x2
            ·
              refine Go.of (fun _ kz => XS.icmpNo X0.here hx rfl (hb hby own_fd71) rfl (teq hc71).2 kz) ?_
              show Go p e below _ T0 (mkF m 74 #[.val (.int a), .val (.int b), .val (.int x1), .val (.int x2), .val (.int y1), .val (.int y2)] [])
              refine Go.of (fun _ kz => XS.iconst X0.here hx rfl (hb hby own_fd74) kz) ?_
              show Go p e below _ T0 (mkF m 75 #[.val (.int a), .val (.int b), .val (.int x1), .val (.int x2), .val (.int y1), .val (.int y2)] [(.int (1 : Int32))])
              refine Go.of (fun _ kz => XS.goto X0.here hx rfl (pc0 := 75) (pc' := 79) rfl (hb hby own_fd75) (by decide) (by decide) kz) ?_
              show Go p e below _ T0 (mkF m 79 #[.val (.int a), .val (.int b), .val (.int x1), .val (.int x2), .val (.int y1), .val (.int y2)] [(.int (1 : Int32))])
              exact Go.retI X0 hx hlk hret (hb hby own_fd79) (by decide) (by decide) ⟨congrArg (fun z => some (Value.int z)) (show (1 : Int32) = own_ref a b x1 x2 y1 y2 by simp only [own_ref, own_ref34, own_ref94, if_neg hc1, if_neg hc7, if_neg hc14, if_pos hc59, if_neg hc65, if_pos hc71]), rfl, e0⟩
            ·
              refine Go.of (fun _ kz => XS.icmpYes X0.here hx rfl (pc0 := 71) (pc' := 78) rfl (hb hby own_fd71) rfl (feq hc71).2 (by decide) (by decide) kz) ?_
              show Go p e below _ T0 (mkF m 78 #[.val (.int a), .val (.int b), .val (.int x1), .val (.int x2), .val (.int y1), .val (.int y2)] [])
              refine Go.of (fun _ kz => XS.iconst X0.here hx rfl (hb hby own_fd78) kz) ?_
              show Go p e below _ T0 (mkF m 79 #[.val (.int a), .val (.int b), .val (.int x1), .val (.int x2), .val (.int y1), .val (.int y2)] [(.int (2 : Int32))])
              exact Go.retI X0 hx hlk hret (hb hby own_fd79) (by decide) (by decide) ⟨congrArg (fun z => some (Value.int z)) (show (2 : Int32) = own_ref a b x1 x2 y1 y2 by simp only [own_ref, own_ref34, own_ref94, if_neg hc1, if_neg hc7, if_neg hc14, if_pos hc59, if_neg hc65, if_neg hc71]), rfl, e0⟩
        ·
          refine Go.of (fun _ kz => XS.icmpYes X0.here hx rfl (pc0 := 59) (pc' := 80) rfl (hb hby own_fd59) rfl (feq hc59).2 (by decide) (by decide) kz) ?_
          show Go p e below _ T0 (mkF m 80 #[.val (.int a), .val (.int b), .val (.int x1), .val (.int x2), .val (.int y1), .val (.int y2)] [])
          refine Go.of (fun _ kz => XS.iloadN X0.here hx rfl (hb hby own_fd80) rfl kz) ?_
          show Go p e below _ T0 (mkF m 81 #[.val (.int a), .val (.int b), .val (.int x1), .val (.int x2), .val (.int y1), .val (.int y2)] [(.int x1)])
          refine Go.of (fun _ kz => XS.iload X0.here hx rfl (hb hby own_fd81) rfl kz) ?_
          show Go p e below _ T0 (mkF m 83 #[.val (.int a), .val (.int b), .val (.int x1), .val (.int x2), .val (.int y1), .val (.int y2)] [(.int y1), (.int x1)])
          by_cases hc83 : x1 = y1
          ·
            refine Go.of (fun _ kz => XS.icmpNo X0.here hx rfl (hb hby own_fd83) rfl (teq hc83).2 kz) ?_
            show Go p e below _ T0 (mkF m 86 #[.val (.int a), .val (.int b), .val (.int x1), .val (.int x2), .val (.int y1), .val (.int y2)] [])
            refine Go.of (fun _ kz => XS.iloadN X0.here hx rfl (hb hby own_fd86) rfl kz) ?_
            show Go p e below _ T0 (mkF m 87 #[.val (.int a), .val (.int b), .val (.int x1), .val (.int x2), .val (.int y1), .val (.int y2)] [(.int x2)])
            refine Go.of (fun _ kz => XS.iload X0.here hx rfl (hb hby own_fd87) rfl kz) ?_
            show Go p e below _ T0 (mkF m 89 #[.val (.int a), .val (.int b), .val (.int x1), .val (.int x2), .val (.int y1), .val (.int y2)] [(.int y2), (.int x2)])
            by_cases hc89 : x2 = y2
            ·
              refine Go.of (fun _ kz => XS.icmpNo X0.here hx rfl (hb hby own_fd89) rfl (teq hc89).2 kz) ?_
              show Go p e below _ T0 (mkF m 92 #[.val (.int a), .val (.int b), .val (.int x1), .val (.int x2), .val (.int y1), .val (.int y2)] [])
              refine Go.of (fun _ kz => XS.iconst X0.here hx rfl (hb hby own_fd92) kz) ?_
              show Go p e below _ T0 (mkF m 93 #[.val (.int a), .val (.int b), .val (.int x1), .val (.int x2), .val (.int y1), .val (.int y2)] [(.int (0 : Int32))])
              exact Go.retI X0 hx hlk hret (hb hby own_fd93) (by decide) (by decide) ⟨congrArg (fun z => some (Value.int z)) (show (0 : Int32) = own_ref a b x1 x2 y1 y2 by simp only [own_ref, own_ref34, own_ref94, if_neg hc1, if_neg hc7, if_neg hc14, if_neg hc59, if_pos hc83, if_pos hc89]), rfl, e0⟩
            ·
              refine Go.of (fun _ kz => XS.icmpYes X0.here hx rfl (pc0 := 89) (pc' := 94) rfl (hb hby own_fd89) rfl (feq hc89).2 (by decide) (by decide) kz) ?_
              show Go p e below _ T0 (mkF m 94 #[.val (.int a), .val (.int b), .val (.int x1), .val (.int x2), .val (.int y1), .val (.int y2)] [])
              refine Go.of (fun _ kz => XS.iloadN X0.here hx rfl (hb hby own_fd94) rfl kz) ?_
              show Go p e below _ T0 (mkF m 95 #[.val (.int a), .val (.int b), .val (.int x1), .val (.int x2), .val (.int y1), .val (.int y2)] [(.int x1)])
              refine Go.of (fun _ kz => XS.iload X0.here hx rfl (hb hby own_fd95) rfl kz) ?_
              show Go p e below _ T0 (mkF m 97 #[.val (.int a), .val (.int b), .val (.int x1), .val (.int x2), .val (.int y1), .val (.int y2)] [(.int y1), (.int x1)])
              refine Go.of (fun _ kz => XS.icmpYes X0.here hx rfl (pc0 := 97) (pc' := 106) rfl (hb hby own_fd97) rfl (teq hc83).1 (by decide) (by decide) kz) ?_
              show Go p e below _ T0 (mkF m 106 #[.val (.int a), .val (.int b), .val (.int x1), .val (.int x2), .val (.int y1), .val (.int y2)] [])
              refine Go.of (fun _ kz => XS.iconst X0.here hx rfl (hb hby own_fd106) kz) ?_
              show Go p e below _ T0 (mkF m 107 #[.val (.int a), .val (.int b), .val (.int x1), .val (.int x2), .val (.int y1), .val (.int y2)] [(.int (1 : Int32))])
              exact Go.retI X0 hx hlk hret (hb hby own_fd107) (by decide) (by decide) ⟨congrArg (fun z => some (Value.int z)) (show (1 : Int32) = own_ref a b x1 x2 y1 y2 by simp only [own_ref, own_ref34, own_ref94, if_neg hc1, if_neg hc7, if_neg hc14, if_neg hc59, if_pos hc83, if_neg hc89]), rfl, e0⟩
          ·
            refine Go.of (fun _ kz => XS.icmpYes X0.here hx rfl (pc0 := 83) (pc' := 94) rfl (hb hby own_fd83) rfl (feq hc83).2 (by decide) (by decide) kz) ?_
            show Go p e below _ T0 (mkF m 94 #[.val (.int a), .val (.int b), .val (.int x1), .val (.int x2), .val (.int y1), .val (.int y2)] [])
            refine Go.of (fun _ kz => XS.iloadN X0.here hx rfl (hb hby own_fd94) rfl kz) ?_
            show Go p e below _ T0 (mkF m 95 #[.val (.int a), .val (.int b), .val (.int x1), .val (.int x2), .val (.int y1), .val (.int y2)] [(.int x1)])
            refine Go.of (fun _ kz => XS.iload X0.here hx rfl (hb hby own_fd95) rfl kz) ?_
            show Go p e below _ T0 (mkF m 97 #[.val (.int a), .val (.int b), .val (.int x1), .val (.int x2), .val (.int y1), .val (.int y2)] [(.int y1), (.int x1)])
            refine Go.of (fun _ kz => XS.icmpNo X0.here hx rfl (hb hby own_fd97) rfl (feq hc83).1 kz) ?_
            show Go p e below _ T0 (mkF m 100 #[.val (.int a), .val (.int b), .val (.int x1), .val (.int x2), .val (.int y1), .val (.int y2)] [])
            refine Go.of (fun _ kz => XS.iloadN X0.here hx rfl (hb hby own_fd100) rfl kz) ?_
            show Go p e below _ T0 (mkF m 101 #[.val (.int a), .val (.int b), .val (.int x1), .val (.int x2), .val (.int y1), .val (.int y2)] [(.int x2)])
            refine Go.of (fun _ kz => XS.iload X0.here hx rfl (hb hby own_fd101) rfl kz) ?_
            show Go p e below _ T0 (mkF m 103 #[.val (.int a), .val (.int b), .val (.int x1), .val (.int x2), .val (.int y1), .val (.int y2)] [(.int y2), (.int x2)])
            by_cases hc103 : x2 = y2
            ·
              refine Go.of (fun _ kz => XS.icmpNo X0.here hx rfl (hb hby own_fd103) rfl (teq hc103).2 kz) ?_
              show Go p e below _ T0 (mkF m 106 #[.val (.int a), .val (.int b), .val (.int x1), .val (.int x2), .val (.int y1), .val (.int y2)] [])
              refine Go.of (fun _ kz => XS.iconst X0.here hx rfl (hb hby own_fd106) kz) ?_
              show Go p e below _ T0 (mkF m 107 #[.val (.int a), .val (.int b), .val (.int x1), .val (.int x2), .val (.int y1), .val (.int y2)] [(.int (1 : Int32))])
              exact Go.retI X0 hx hlk hret (hb hby own_fd107) (by decide) (by decide) ⟨congrArg (fun z => some (Value.int z)) (show (1 : Int32) = own_ref a b x1 x2 y1 y2 by simp only [own_ref, own_ref34, own_ref94, if_neg hc1, if_neg hc7, if_neg hc14, if_neg hc59, if_neg hc83, if_pos hc103]), rfl, e0⟩
            ·
              refine Go.of (fun _ kz => XS.icmpYes X0.here hx rfl (pc0 := 103) (pc' := 108) rfl (hb hby own_fd103) rfl (feq hc103).2 (by decide) (by decide) kz) ?_
              show Go p e below _ T0 (mkF m 108 #[.val (.int a), .val (.int b), .val (.int x1), .val (.int x2), .val (.int y1), .val (.int y2)] [])
              refine Go.of (fun _ kz => XS.iloadN X0.here hx rfl (hb hby own_fd108) rfl kz) ?_
              show Go p e below _ T0 (mkF m 109 #[.val (.int a), .val (.int b), .val (.int x1), .val (.int x2), .val (.int y1), .val (.int y2)] [(.int x1)])
              refine Go.of (fun _ kz => XS.iload X0.here hx rfl (hb hby own_fd109) rfl kz) ?_
              show Go p e below _ T0 (mkF m 111 #[.val (.int a), .val (.int b), .val (.int x1), .val (.int x2), .val (.int y1), .val (.int y2)] [(.int y2), (.int x1)])
              by_cases hc111 : x1 = y2
              ·
                refine Go.of (fun _ kz => XS.icmpNo X0.here hx rfl (hb hby own_fd111) rfl (teq hc111).2 kz) ?_
                show Go p e below _ T0 (mkF m 114 #[.val (.int a), .val (.int b), .val (.int x1), .val (.int x2), .val (.int y1), .val (.int y2)] [])
                refine Go.of (fun _ kz => XS.iloadN X0.here hx rfl (hb hby own_fd114) rfl kz) ?_
                show Go p e below _ T0 (mkF m 115 #[.val (.int a), .val (.int b), .val (.int x1), .val (.int x2), .val (.int y1), .val (.int y2)] [(.int x2)])
                refine Go.of (fun _ kz => XS.iload X0.here hx rfl (hb hby own_fd115) rfl kz) ?_
                show Go p e below _ T0 (mkF m 117 #[.val (.int a), .val (.int b), .val (.int x1), .val (.int x2), .val (.int y1), .val (.int y2)] [(.int y1), (.int x2)])
                by_cases hc117 : x2 = y1
                ·
                  refine Go.of (fun _ kz => XS.icmpNo X0.here hx rfl (hb hby own_fd117) rfl (teq hc117).2 kz) ?_
                  show Go p e below _ T0 (mkF m 120 #[.val (.int a), .val (.int b), .val (.int x1), .val (.int x2), .val (.int y1), .val (.int y2)] [])
                  refine Go.of (fun _ kz => XS.iconst X0.here hx rfl (hb hby own_fd120) kz) ?_
                  show Go p e below _ T0 (mkF m 121 #[.val (.int a), .val (.int b), .val (.int x1), .val (.int x2), .val (.int y1), .val (.int y2)] [(.int (1 : Int32))])
                  exact Go.retI X0 hx hlk hret (hb hby own_fd121) (by decide) (by decide) ⟨congrArg (fun z => some (Value.int z)) (show (1 : Int32) = own_ref a b x1 x2 y1 y2 by simp only [own_ref, own_ref34, own_ref94, if_neg hc1, if_neg hc7, if_neg hc14, if_neg hc59, if_neg hc83, if_neg hc103, if_pos hc111, if_pos hc117]), rfl, e0⟩
                ·
                  refine Go.of (fun _ kz => XS.icmpYes X0.here hx rfl (pc0 := 117) (pc' := 122) rfl (hb hby own_fd117) rfl (feq hc117).2 (by decide) (by decide) kz) ?_
                  show Go p e below _ T0 (mkF m 122 #[.val (.int a), .val (.int b), .val (.int x1), .val (.int x2), .val (.int y1), .val (.int y2)] [])
                  refine Go.of (fun _ kz => XS.iconst X0.here hx rfl (hb hby own_fd122) kz) ?_
                  show Go p e below _ T0 (mkF m 123 #[.val (.int a), .val (.int b), .val (.int x1), .val (.int x2), .val (.int y1), .val (.int y2)] [(.int (2 : Int32))])
                  exact Go.retI X0 hx hlk hret (hb hby own_fd123) (by decide) (by decide) ⟨congrArg (fun z => some (Value.int z)) (show (2 : Int32) = own_ref a b x1 x2 y1 y2 by simp only [own_ref, own_ref34, own_ref94, if_neg hc1, if_neg hc7, if_neg hc14, if_neg hc59, if_neg hc83, if_neg hc103, if_pos hc111, if_neg hc117]), rfl, e0⟩
              ·
                refine Go.of (fun _ kz => XS.icmpYes X0.here hx rfl (pc0 := 111) (pc' := 122) rfl (hb hby own_fd111) rfl (feq hc111).2 (by decide) (by decide) kz) ?_
                show Go p e below _ T0 (mkF m 122 #[.val (.int a), .val (.int b), .val (.int x1), .val (.int x2), .val (.int y1), .val (.int y2)] [])
                refine Go.of (fun _ kz => XS.iconst X0.here hx rfl (hb hby own_fd122) kz) ?_
                show Go p e below _ T0 (mkF m 123 #[.val (.int a), .val (.int b), .val (.int x1), .val (.int x2), .val (.int y1), .val (.int y2)] [(.int (2 : Int32))])
                exact Go.retI X0 hx hlk hret (hb hby own_fd123) (by decide) (by decide) ⟨congrArg (fun z => some (Value.int z)) (show (2 : Int32) = own_ref a b x1 x2 y1 y2 by simp only [own_ref, own_ref34, own_ref94, if_neg hc1, if_neg hc7, if_neg hc14, if_neg hc59, if_neg hc83, if_neg hc103, if_neg hc111]), rfl, e0⟩
theorem own_le2 {n : Nat} (h : n ≤ 3) (q : ¬ own_I n = (3 : Int32)) : n ≤ 2 := by
  rcases Nat.lt_or_ge 2 n with z | z
  · exact absurd (show own_I n = 3 by rw [show n = 3 by omega]; rfl) q
  · exact z
set_option maxRecDepth 65536 in
set_option maxHeartbeats 40000000 in
theorem rm0 (l : Launch) (Z : State) (a0 : Array Value) (hw : ∀ d ∈ tables_1, d.before a0 Z = true) (ws : List Jvm.Cond) (x0 x1 x2 x3 x4 x5 : Int32) (h0 : Heap)  :
    MetFree l x (head1 (Jvm.Cond.code x code maxLocals ret :: ws) room_1) (fun aa U => aa = #[(.int x0), (.int x1), (.int x2), (.int x3), (.int x4), (.int x5)] ∧ Z.Warmed39 U.vm ∧ U.heap = h0) (fun _ _ _ _ _ => True) (fun _ U o U' => ∃ v L, o = .returned v ∧ (fun v _ L => v = some (.int 1) ∧ Fr h0.size L) v U'.heap L ∧ FrameEnd U o U' L room_1.cells room_1.slots) := by
  refine goBody (y := x) (Q := fun v _ L => v = some (.int 1) ∧ Fr h0.size L) (plainFor_of_name (by first | (simp [plainName, overriddenIn]; done) | decide +kernel)) ?_
  intro p e s m below meth c T0 hx hZ hby hml hown hnm hret hlk X0 e0
  have hown : s.vm.findClass "com/example/keen_guess/keenguess/edit/EditDistanceDistancePinLaw" = some m.cls := hown
  have hml : c.maxLocals = 17 := hml
  refine Go.cast (g' := mkF m 0 #[.val (.int x0), .val (.int x1), .val (.int x2), .val (.int x3), .val (.int x4), .val (.int x5), .unset, .unset, .unset, .unset, .unset, .unset, .unset, .unset, .unset, .unset, .unset] []) (by first | (simp [entryFrame, mkF, argsToLocals, Value.category, maxLocals]; done) | rfl) ?_
  show Go p e below _ T0 (mkF m 0 #[.val (.int x0), .val (.int x1), .val (.int x2), .val (.int x3), .val (.int x4), .val (.int x5), .unset, .unset, .unset, .unset, .unset, .unset, .unset, .unset, .unset, .unset, .unset] [])
  refine Go.of (fun _ kz => XS.iload X0.here hx rfl (hb hby at_0) rfl kz) ?_
  show Go p e below _ T0 (mkF m 2 #[.val (.int x0), .val (.int x1), .val (.int x2), .val (.int x3), .val (.int x4), .val (.int x5), .unset, .unset, .unset, .unset, .unset, .unset, .unset, .unset, .unset, .unset, .unset] [(.int x5)])
  refine Go.of (fun _ kz => XS.bipush X0.here hx rfl (hb hby at_2) kz) ?_
  show Go p e below _ T0 (mkF m 4 #[.val (.int x0), .val (.int x1), .val (.int x2), .val (.int x3), .val (.int x4), .val (.int x5), .unset, .unset, .unset, .unset, .unset, .unset, .unset, .unset, .unset, .unset, .unset] [(.int (7 : Int32)), (.int x5)])
  refine Go.of (fun _ kz => XS.iand X0.here hx rfl (hb hby at_4) rfl kz) ?_
  show Go p e below _ T0 (mkF m 5 #[.val (.int x0), .val (.int x1), .val (.int x2), .val (.int x3), .val (.int x4), .val (.int x5), .unset, .unset, .unset, .unset, .unset, .unset, .unset, .unset, .unset, .unset, .unset] [(.int (x5 &&& (7 : Int32)))])
  obtain ⟨mx, hmx, lmx⟩ := own_mask7 x5
  rw [hmx]
  show Go p e below _ T0 (mkF m 5 #[.val (.int x0), .val (.int x1), .val (.int x2), .val (.int x3), .val (.int x4), .val (.int x5), .unset, .unset, .unset, .unset, .unset, .unset, .unset, .unset, .unset, .unset, .unset] [(.int (own_I mx))])
  refine Go.of (fun _ kz => XS.istore X0.here hx rfl (hb hby at_5) rfl (l' := #[.val (.int x0), .val (.int x1), .val (.int x2), .val (.int x3), .val (.int x4), .val (.int x5), .val (.int (own_I mx)), .unset, .unset, .unset, .unset, .unset, .unset, .unset, .unset, .unset, .unset]) rfl kz) ?_
  show Go p e below _ T0 (mkF m 7 #[.val (.int x0), .val (.int x1), .val (.int x2), .val (.int x3), .val (.int x4), .val (.int x5), .val (.int (own_I mx)), .unset, .unset, .unset, .unset, .unset, .unset, .unset, .unset, .unset, .unset] [])
  refine Go.of (fun _ kz => XS.iloadN X0.here hx rfl (hb hby at_7) rfl kz) ?_
  show Go p e below _ T0 (mkF m 8 #[.val (.int x0), .val (.int x1), .val (.int x2), .val (.int x3), .val (.int x4), .val (.int x5), .val (.int (own_I mx)), .unset, .unset, .unset, .unset, .unset, .unset, .unset, .unset, .unset, .unset] [(.int x0)])
  refine Go.of (fun _ kz => XS.iconst X0.here hx rfl (hb hby at_8) kz) ?_
  show Go p e below _ T0 (mkF m 9 #[.val (.int x0), .val (.int x1), .val (.int x2), .val (.int x3), .val (.int x4), .val (.int x5), .val (.int (own_I mx)), .unset, .unset, .unset, .unset, .unset, .unset, .unset, .unset, .unset, .unset] [(.int (4 : Int32)), (.int x0)])
  refine Go.of (fun _ kz => XS.ishr X0.here hx rfl (hb hby at_9) rfl kz) ?_
  show Go p e below _ T0 (mkF m 10 #[.val (.int x0), .val (.int x1), .val (.int x2), .val (.int x3), .val (.int x4), .val (.int x5), .val (.int (own_I mx)), .unset, .unset, .unset, .unset, .unset, .unset, .unset, .unset, .unset, .unset] [(.int (x0 >>> ((4 : Int32) &&& 31)))])
  refine Go.of (fun _ kz => XS.iconst X0.here hx rfl (hb hby at_10) kz) ?_
  show Go p e below _ T0 (mkF m 11 #[.val (.int x0), .val (.int x1), .val (.int x2), .val (.int x3), .val (.int x4), .val (.int x5), .val (.int (own_I mx)), .unset, .unset, .unset, .unset, .unset, .unset, .unset, .unset, .unset, .unset] [(.int (1 : Int32)), (.int (x0 >>> ((4 : Int32) &&& 31)))])
  refine Go.of (fun _ kz => XS.iand X0.here hx rfl (hb hby at_11) rfl kz) ?_
  show Go p e below _ T0 (mkF m 12 #[.val (.int x0), .val (.int x1), .val (.int x2), .val (.int x3), .val (.int x4), .val (.int x5), .val (.int (own_I mx)), .unset, .unset, .unset, .unset, .unset, .unset, .unset, .unset, .unset, .unset] [(.int ((x0 >>> ((4 : Int32) &&& 31)) &&& (1 : Int32)))])
  suffices km12 : ∀ (sm : Int32), sm = (if ((x0 >>> ((4 : Int32) &&& 31)) &&& (1 : Int32)) = (0 : Int32) then (0 : Int32) else (1 : Int32)) → Go p e below (GoEnd s room_1.cells room_1.slots (fun v _ L => v = some (.int 1) ∧ Fr h0.size L)) T0 (mkF m 20 #[.val (.int x0), .val (.int x1), .val (.int x2), .val (.int x3), .val (.int x4), .val (.int x5), .val (.int (own_I mx)), .unset, .unset, .unset, .unset, .unset, .unset, .unset, .unset, .unset, .unset] [(.int sm)]) by
    by_cases hc12 : ((x0 >>> ((4 : Int32) &&& 31)) &&& (1 : Int32)) = (0 : Int32)
    ·
      refine Go.of (fun _ kz => XS.ifYes X0.here hx rfl (pc0 := 12) (pc' := 19) rfl (hb hby at_12) rfl ((if0 _ _).trans (teq hc12).1) (by decide) (by decide) kz) ?_
      show Go p e below _ T0 (mkF m 19 #[.val (.int x0), .val (.int x1), .val (.int x2), .val (.int x3), .val (.int x4), .val (.int x5), .val (.int (own_I mx)), .unset, .unset, .unset, .unset, .unset, .unset, .unset, .unset, .unset, .unset] [])
      refine Go.of (fun _ kz => XS.iconst X0.here hx rfl (hb hby at_19) kz) ?_
      show Go p e below _ T0 (mkF m 20 #[.val (.int x0), .val (.int x1), .val (.int x2), .val (.int x3), .val (.int x4), .val (.int x5), .val (.int (own_I mx)), .unset, .unset, .unset, .unset, .unset, .unset, .unset, .unset, .unset, .unset] [(.int (0 : Int32))])
      exact km12 _ (if_pos hc12).symm
    ·
      refine Go.of (fun _ kz => XS.ifNo X0.here hx rfl (hb hby at_12) rfl ((if0 _ _).trans (feq hc12).1) kz) ?_
      show Go p e below _ T0 (mkF m 15 #[.val (.int x0), .val (.int x1), .val (.int x2), .val (.int x3), .val (.int x4), .val (.int x5), .val (.int (own_I mx)), .unset, .unset, .unset, .unset, .unset, .unset, .unset, .unset, .unset, .unset] [])
      refine Go.of (fun _ kz => XS.iconst X0.here hx rfl (hb hby at_15) kz) ?_
      show Go p e below _ T0 (mkF m 16 #[.val (.int x0), .val (.int x1), .val (.int x2), .val (.int x3), .val (.int x4), .val (.int x5), .val (.int (own_I mx)), .unset, .unset, .unset, .unset, .unset, .unset, .unset, .unset, .unset, .unset] [(.int (1 : Int32))])
      refine Go.of (fun _ kz => XS.goto X0.here hx rfl (pc0 := 16) (pc' := 20) rfl (hb hby at_16) (by decide) (by decide) kz) ?_
      show Go p e below _ T0 (mkF m 20 #[.val (.int x0), .val (.int x1), .val (.int x2), .val (.int x3), .val (.int x4), .val (.int x5), .val (.int (own_I mx)), .unset, .unset, .unset, .unset, .unset, .unset, .unset, .unset, .unset, .unset] [(.int (1 : Int32))])
      exact km12 _ (if_neg hc12).symm
  intro sm hu_sm
  show Go p e below _ T0 (mkF m 20 #[.val (.int x0), .val (.int x1), .val (.int x2), .val (.int x3), .val (.int x4), .val (.int x5), .val (.int (own_I mx)), .unset, .unset, .unset, .unset, .unset, .unset, .unset, .unset, .unset, .unset] [(.int sm)])
  refine Go.of (fun _ kz => XS.istore X0.here hx rfl (hb hby at_20) rfl (l' := #[.val (.int x0), .val (.int x1), .val (.int x2), .val (.int x3), .val (.int x4), .val (.int x5), .val (.int (own_I mx)), .val (.int sm), .unset, .unset, .unset, .unset, .unset, .unset, .unset, .unset, .unset]) rfl kz) ?_
  show Go p e below _ T0 (mkF m 22 #[.val (.int x0), .val (.int x1), .val (.int x2), .val (.int x3), .val (.int x4), .val (.int x5), .val (.int (own_I mx)), .val (.int sm), .unset, .unset, .unset, .unset, .unset, .unset, .unset, .unset, .unset] [])
  refine Go.of (fun _ kz => XS.iload X0.here hx rfl (hb hby at_22) rfl kz) ?_
  show Go p e below _ T0 (mkF m 24 #[.val (.int x0), .val (.int x1), .val (.int x2), .val (.int x3), .val (.int x4), .val (.int x5), .val (.int (own_I mx)), .val (.int sm), .unset, .unset, .unset, .unset, .unset, .unset, .unset, .unset, .unset] [(.int sm)])
  suffices km24 : ∀ (v1 : Int32), v1 = (if sm = (0 : Int32) then x1 else (x1 &&& (3 : Int32))) → Go p e below (GoEnd s room_1.cells room_1.slots (fun v _ L => v = some (.int 1) ∧ Fr h0.size L)) T0 (mkF m 34 #[.val (.int x0), .val (.int x1), .val (.int x2), .val (.int x3), .val (.int x4), .val (.int x5), .val (.int (own_I mx)), .val (.int sm), .unset, .unset, .unset, .unset, .unset, .unset, .unset, .unset, .unset] [(.int v1)]) by
    by_cases hc24 : sm = (0 : Int32)
    ·
      refine Go.of (fun _ kz => XS.ifYes X0.here hx rfl (pc0 := 24) (pc' := 33) rfl (hb hby at_24) rfl ((if0 _ _).trans (teq hc24).1) (by decide) (by decide) kz) ?_
      show Go p e below _ T0 (mkF m 33 #[.val (.int x0), .val (.int x1), .val (.int x2), .val (.int x3), .val (.int x4), .val (.int x5), .val (.int (own_I mx)), .val (.int sm), .unset, .unset, .unset, .unset, .unset, .unset, .unset, .unset, .unset] [])
      refine Go.of (fun _ kz => XS.iloadN X0.here hx rfl (hb hby at_33) rfl kz) ?_
      show Go p e below _ T0 (mkF m 34 #[.val (.int x0), .val (.int x1), .val (.int x2), .val (.int x3), .val (.int x4), .val (.int x5), .val (.int (own_I mx)), .val (.int sm), .unset, .unset, .unset, .unset, .unset, .unset, .unset, .unset, .unset] [(.int x1)])
      exact km24 _ (if_pos hc24).symm
    ·
      refine Go.of (fun _ kz => XS.ifNo X0.here hx rfl (hb hby at_24) rfl ((if0 _ _).trans (feq hc24).1) kz) ?_
      show Go p e below _ T0 (mkF m 27 #[.val (.int x0), .val (.int x1), .val (.int x2), .val (.int x3), .val (.int x4), .val (.int x5), .val (.int (own_I mx)), .val (.int sm), .unset, .unset, .unset, .unset, .unset, .unset, .unset, .unset, .unset] [])
      refine Go.of (fun _ kz => XS.iloadN X0.here hx rfl (hb hby at_27) rfl kz) ?_
      show Go p e below _ T0 (mkF m 28 #[.val (.int x0), .val (.int x1), .val (.int x2), .val (.int x3), .val (.int x4), .val (.int x5), .val (.int (own_I mx)), .val (.int sm), .unset, .unset, .unset, .unset, .unset, .unset, .unset, .unset, .unset] [(.int x1)])
      refine Go.of (fun _ kz => XS.iconst X0.here hx rfl (hb hby at_28) kz) ?_
      show Go p e below _ T0 (mkF m 29 #[.val (.int x0), .val (.int x1), .val (.int x2), .val (.int x3), .val (.int x4), .val (.int x5), .val (.int (own_I mx)), .val (.int sm), .unset, .unset, .unset, .unset, .unset, .unset, .unset, .unset, .unset] [(.int (3 : Int32)), (.int x1)])
      refine Go.of (fun _ kz => XS.iand X0.here hx rfl (hb hby at_29) rfl kz) ?_
      show Go p e below _ T0 (mkF m 30 #[.val (.int x0), .val (.int x1), .val (.int x2), .val (.int x3), .val (.int x4), .val (.int x5), .val (.int (own_I mx)), .val (.int sm), .unset, .unset, .unset, .unset, .unset, .unset, .unset, .unset, .unset] [(.int (x1 &&& (3 : Int32)))])
      refine Go.of (fun _ kz => XS.goto X0.here hx rfl (pc0 := 30) (pc' := 34) rfl (hb hby at_30) (by decide) (by decide) kz) ?_
      show Go p e below _ T0 (mkF m 34 #[.val (.int x0), .val (.int x1), .val (.int x2), .val (.int x3), .val (.int x4), .val (.int x5), .val (.int (own_I mx)), .val (.int sm), .unset, .unset, .unset, .unset, .unset, .unset, .unset, .unset, .unset] [(.int (x1 &&& (3 : Int32)))])
      exact km24 _ (if_neg hc24).symm
  intro v1 hu_v1
  show Go p e below _ T0 (mkF m 34 #[.val (.int x0), .val (.int x1), .val (.int x2), .val (.int x3), .val (.int x4), .val (.int x5), .val (.int (own_I mx)), .val (.int sm), .unset, .unset, .unset, .unset, .unset, .unset, .unset, .unset, .unset] [(.int v1)])
  refine Go.of (fun _ kz => XS.istore X0.here hx rfl (hb hby at_34) rfl (l' := #[.val (.int x0), .val (.int x1), .val (.int x2), .val (.int x3), .val (.int x4), .val (.int x5), .val (.int (own_I mx)), .val (.int sm), .val (.int v1), .unset, .unset, .unset, .unset, .unset, .unset, .unset, .unset]) rfl kz) ?_
  show Go p e below _ T0 (mkF m 36 #[.val (.int x0), .val (.int x1), .val (.int x2), .val (.int x3), .val (.int x4), .val (.int x5), .val (.int (own_I mx)), .val (.int sm), .val (.int v1), .unset, .unset, .unset, .unset, .unset, .unset, .unset, .unset] [])
  refine Go.of (fun _ kz => XS.iload X0.here hx rfl (hb hby at_36) rfl kz) ?_
  show Go p e below _ T0 (mkF m 38 #[.val (.int x0), .val (.int x1), .val (.int x2), .val (.int x3), .val (.int x4), .val (.int x5), .val (.int (own_I mx)), .val (.int sm), .val (.int v1), .unset, .unset, .unset, .unset, .unset, .unset, .unset, .unset] [(.int sm)])
  suffices km38 : ∀ (v2 : Int32), v2 = (if sm = (0 : Int32) then x2 else (x2 &&& (3 : Int32))) → Go p e below (GoEnd s room_1.cells room_1.slots (fun v _ L => v = some (.int 1) ∧ Fr h0.size L)) T0 (mkF m 48 #[.val (.int x0), .val (.int x1), .val (.int x2), .val (.int x3), .val (.int x4), .val (.int x5), .val (.int (own_I mx)), .val (.int sm), .val (.int v1), .unset, .unset, .unset, .unset, .unset, .unset, .unset, .unset] [(.int v2)]) by
    by_cases hc38 : sm = (0 : Int32)
    ·
      refine Go.of (fun _ kz => XS.ifYes X0.here hx rfl (pc0 := 38) (pc' := 47) rfl (hb hby at_38) rfl ((if0 _ _).trans (teq hc38).1) (by decide) (by decide) kz) ?_
      show Go p e below _ T0 (mkF m 47 #[.val (.int x0), .val (.int x1), .val (.int x2), .val (.int x3), .val (.int x4), .val (.int x5), .val (.int (own_I mx)), .val (.int sm), .val (.int v1), .unset, .unset, .unset, .unset, .unset, .unset, .unset, .unset] [])
      refine Go.of (fun _ kz => XS.iloadN X0.here hx rfl (hb hby at_47) rfl kz) ?_
      show Go p e below _ T0 (mkF m 48 #[.val (.int x0), .val (.int x1), .val (.int x2), .val (.int x3), .val (.int x4), .val (.int x5), .val (.int (own_I mx)), .val (.int sm), .val (.int v1), .unset, .unset, .unset, .unset, .unset, .unset, .unset, .unset] [(.int x2)])
      exact km38 _ (if_pos hc38).symm
    ·
      refine Go.of (fun _ kz => XS.ifNo X0.here hx rfl (hb hby at_38) rfl ((if0 _ _).trans (feq hc38).1) kz) ?_
      show Go p e below _ T0 (mkF m 41 #[.val (.int x0), .val (.int x1), .val (.int x2), .val (.int x3), .val (.int x4), .val (.int x5), .val (.int (own_I mx)), .val (.int sm), .val (.int v1), .unset, .unset, .unset, .unset, .unset, .unset, .unset, .unset] [])
      refine Go.of (fun _ kz => XS.iloadN X0.here hx rfl (hb hby at_41) rfl kz) ?_
      show Go p e below _ T0 (mkF m 42 #[.val (.int x0), .val (.int x1), .val (.int x2), .val (.int x3), .val (.int x4), .val (.int x5), .val (.int (own_I mx)), .val (.int sm), .val (.int v1), .unset, .unset, .unset, .unset, .unset, .unset, .unset, .unset] [(.int x2)])
      refine Go.of (fun _ kz => XS.iconst X0.here hx rfl (hb hby at_42) kz) ?_
      show Go p e below _ T0 (mkF m 43 #[.val (.int x0), .val (.int x1), .val (.int x2), .val (.int x3), .val (.int x4), .val (.int x5), .val (.int (own_I mx)), .val (.int sm), .val (.int v1), .unset, .unset, .unset, .unset, .unset, .unset, .unset, .unset] [(.int (3 : Int32)), (.int x2)])
      refine Go.of (fun _ kz => XS.iand X0.here hx rfl (hb hby at_43) rfl kz) ?_
      show Go p e below _ T0 (mkF m 44 #[.val (.int x0), .val (.int x1), .val (.int x2), .val (.int x3), .val (.int x4), .val (.int x5), .val (.int (own_I mx)), .val (.int sm), .val (.int v1), .unset, .unset, .unset, .unset, .unset, .unset, .unset, .unset] [(.int (x2 &&& (3 : Int32)))])
      refine Go.of (fun _ kz => XS.goto X0.here hx rfl (pc0 := 44) (pc' := 48) rfl (hb hby at_44) (by decide) (by decide) kz) ?_
      show Go p e below _ T0 (mkF m 48 #[.val (.int x0), .val (.int x1), .val (.int x2), .val (.int x3), .val (.int x4), .val (.int x5), .val (.int (own_I mx)), .val (.int sm), .val (.int v1), .unset, .unset, .unset, .unset, .unset, .unset, .unset, .unset] [(.int (x2 &&& (3 : Int32)))])
      exact km38 _ (if_neg hc38).symm
  intro v2 hu_v2
  show Go p e below _ T0 (mkF m 48 #[.val (.int x0), .val (.int x1), .val (.int x2), .val (.int x3), .val (.int x4), .val (.int x5), .val (.int (own_I mx)), .val (.int sm), .val (.int v1), .unset, .unset, .unset, .unset, .unset, .unset, .unset, .unset] [(.int v2)])
  refine Go.of (fun _ kz => XS.istore X0.here hx rfl (hb hby at_48) rfl (l' := #[.val (.int x0), .val (.int x1), .val (.int x2), .val (.int x3), .val (.int x4), .val (.int x5), .val (.int (own_I mx)), .val (.int sm), .val (.int v1), .val (.int v2), .unset, .unset, .unset, .unset, .unset, .unset, .unset]) rfl kz) ?_
  show Go p e below _ T0 (mkF m 50 #[.val (.int x0), .val (.int x1), .val (.int x2), .val (.int x3), .val (.int x4), .val (.int x5), .val (.int (own_I mx)), .val (.int sm), .val (.int v1), .val (.int v2), .unset, .unset, .unset, .unset, .unset, .unset, .unset] [])
  refine Go.of (fun _ kz => XS.iload X0.here hx rfl (hb hby at_50) rfl kz) ?_
  show Go p e below _ T0 (mkF m 52 #[.val (.int x0), .val (.int x1), .val (.int x2), .val (.int x3), .val (.int x4), .val (.int x5), .val (.int (own_I mx)), .val (.int sm), .val (.int v1), .val (.int v2), .unset, .unset, .unset, .unset, .unset, .unset, .unset] [(.int sm)])
  suffices km52 : ∀ (w1 : Int32), w1 = (if sm = (0 : Int32) then x3 else (x3 &&& (3 : Int32))) → Go p e below (GoEnd s room_1.cells room_1.slots (fun v _ L => v = some (.int 1) ∧ Fr h0.size L)) T0 (mkF m 62 #[.val (.int x0), .val (.int x1), .val (.int x2), .val (.int x3), .val (.int x4), .val (.int x5), .val (.int (own_I mx)), .val (.int sm), .val (.int v1), .val (.int v2), .unset, .unset, .unset, .unset, .unset, .unset, .unset] [(.int w1)]) by
    by_cases hc52 : sm = (0 : Int32)
    ·
      refine Go.of (fun _ kz => XS.ifYes X0.here hx rfl (pc0 := 52) (pc' := 61) rfl (hb hby at_52) rfl ((if0 _ _).trans (teq hc52).1) (by decide) (by decide) kz) ?_
      show Go p e below _ T0 (mkF m 61 #[.val (.int x0), .val (.int x1), .val (.int x2), .val (.int x3), .val (.int x4), .val (.int x5), .val (.int (own_I mx)), .val (.int sm), .val (.int v1), .val (.int v2), .unset, .unset, .unset, .unset, .unset, .unset, .unset] [])
      refine Go.of (fun _ kz => XS.iloadN X0.here hx rfl (hb hby at_61) rfl kz) ?_
      show Go p e below _ T0 (mkF m 62 #[.val (.int x0), .val (.int x1), .val (.int x2), .val (.int x3), .val (.int x4), .val (.int x5), .val (.int (own_I mx)), .val (.int sm), .val (.int v1), .val (.int v2), .unset, .unset, .unset, .unset, .unset, .unset, .unset] [(.int x3)])
      exact km52 _ (if_pos hc52).symm
    ·
      refine Go.of (fun _ kz => XS.ifNo X0.here hx rfl (hb hby at_52) rfl ((if0 _ _).trans (feq hc52).1) kz) ?_
      show Go p e below _ T0 (mkF m 55 #[.val (.int x0), .val (.int x1), .val (.int x2), .val (.int x3), .val (.int x4), .val (.int x5), .val (.int (own_I mx)), .val (.int sm), .val (.int v1), .val (.int v2), .unset, .unset, .unset, .unset, .unset, .unset, .unset] [])
      refine Go.of (fun _ kz => XS.iloadN X0.here hx rfl (hb hby at_55) rfl kz) ?_
      show Go p e below _ T0 (mkF m 56 #[.val (.int x0), .val (.int x1), .val (.int x2), .val (.int x3), .val (.int x4), .val (.int x5), .val (.int (own_I mx)), .val (.int sm), .val (.int v1), .val (.int v2), .unset, .unset, .unset, .unset, .unset, .unset, .unset] [(.int x3)])
      refine Go.of (fun _ kz => XS.iconst X0.here hx rfl (hb hby at_56) kz) ?_
      show Go p e below _ T0 (mkF m 57 #[.val (.int x0), .val (.int x1), .val (.int x2), .val (.int x3), .val (.int x4), .val (.int x5), .val (.int (own_I mx)), .val (.int sm), .val (.int v1), .val (.int v2), .unset, .unset, .unset, .unset, .unset, .unset, .unset] [(.int (3 : Int32)), (.int x3)])
      refine Go.of (fun _ kz => XS.iand X0.here hx rfl (hb hby at_57) rfl kz) ?_
      show Go p e below _ T0 (mkF m 58 #[.val (.int x0), .val (.int x1), .val (.int x2), .val (.int x3), .val (.int x4), .val (.int x5), .val (.int (own_I mx)), .val (.int sm), .val (.int v1), .val (.int v2), .unset, .unset, .unset, .unset, .unset, .unset, .unset] [(.int (x3 &&& (3 : Int32)))])
      refine Go.of (fun _ kz => XS.goto X0.here hx rfl (pc0 := 58) (pc' := 62) rfl (hb hby at_58) (by decide) (by decide) kz) ?_
      show Go p e below _ T0 (mkF m 62 #[.val (.int x0), .val (.int x1), .val (.int x2), .val (.int x3), .val (.int x4), .val (.int x5), .val (.int (own_I mx)), .val (.int sm), .val (.int v1), .val (.int v2), .unset, .unset, .unset, .unset, .unset, .unset, .unset] [(.int (x3 &&& (3 : Int32)))])
      exact km52 _ (if_neg hc52).symm
  intro w1 hu_w1
  show Go p e below _ T0 (mkF m 62 #[.val (.int x0), .val (.int x1), .val (.int x2), .val (.int x3), .val (.int x4), .val (.int x5), .val (.int (own_I mx)), .val (.int sm), .val (.int v1), .val (.int v2), .unset, .unset, .unset, .unset, .unset, .unset, .unset] [(.int w1)])
  refine Go.of (fun _ kz => XS.istore X0.here hx rfl (hb hby at_62) rfl (l' := #[.val (.int x0), .val (.int x1), .val (.int x2), .val (.int x3), .val (.int x4), .val (.int x5), .val (.int (own_I mx)), .val (.int sm), .val (.int v1), .val (.int v2), .val (.int w1), .unset, .unset, .unset, .unset, .unset, .unset]) rfl kz) ?_
  show Go p e below _ T0 (mkF m 64 #[.val (.int x0), .val (.int x1), .val (.int x2), .val (.int x3), .val (.int x4), .val (.int x5), .val (.int (own_I mx)), .val (.int sm), .val (.int v1), .val (.int v2), .val (.int w1), .unset, .unset, .unset, .unset, .unset, .unset] [])
  refine Go.of (fun _ kz => XS.iload X0.here hx rfl (hb hby at_64) rfl kz) ?_
  show Go p e below _ T0 (mkF m 66 #[.val (.int x0), .val (.int x1), .val (.int x2), .val (.int x3), .val (.int x4), .val (.int x5), .val (.int (own_I mx)), .val (.int sm), .val (.int v1), .val (.int v2), .val (.int w1), .unset, .unset, .unset, .unset, .unset, .unset] [(.int sm)])
  suffices km66 : ∀ (w2 : Int32), w2 = (if sm = (0 : Int32) then x4 else (x4 &&& (3 : Int32))) → Go p e below (GoEnd s room_1.cells room_1.slots (fun v _ L => v = some (.int 1) ∧ Fr h0.size L)) T0 (mkF m 78 #[.val (.int x0), .val (.int x1), .val (.int x2), .val (.int x3), .val (.int x4), .val (.int x5), .val (.int (own_I mx)), .val (.int sm), .val (.int v1), .val (.int v2), .val (.int w1), .unset, .unset, .unset, .unset, .unset, .unset] [(.int w2)]) by
    by_cases hc66 : sm = (0 : Int32)
    ·
      refine Go.of (fun _ kz => XS.ifYes X0.here hx rfl (pc0 := 66) (pc' := 76) rfl (hb hby at_66) rfl ((if0 _ _).trans (teq hc66).1) (by decide) (by decide) kz) ?_
      show Go p e below _ T0 (mkF m 76 #[.val (.int x0), .val (.int x1), .val (.int x2), .val (.int x3), .val (.int x4), .val (.int x5), .val (.int (own_I mx)), .val (.int sm), .val (.int v1), .val (.int v2), .val (.int w1), .unset, .unset, .unset, .unset, .unset, .unset] [])
      refine Go.of (fun _ kz => XS.iload X0.here hx rfl (hb hby at_76) rfl kz) ?_
      show Go p e below _ T0 (mkF m 78 #[.val (.int x0), .val (.int x1), .val (.int x2), .val (.int x3), .val (.int x4), .val (.int x5), .val (.int (own_I mx)), .val (.int sm), .val (.int v1), .val (.int v2), .val (.int w1), .unset, .unset, .unset, .unset, .unset, .unset] [(.int x4)])
      exact km66 _ (if_pos hc66).symm
    ·
      refine Go.of (fun _ kz => XS.ifNo X0.here hx rfl (hb hby at_66) rfl ((if0 _ _).trans (feq hc66).1) kz) ?_
      show Go p e below _ T0 (mkF m 69 #[.val (.int x0), .val (.int x1), .val (.int x2), .val (.int x3), .val (.int x4), .val (.int x5), .val (.int (own_I mx)), .val (.int sm), .val (.int v1), .val (.int v2), .val (.int w1), .unset, .unset, .unset, .unset, .unset, .unset] [])
      refine Go.of (fun _ kz => XS.iload X0.here hx rfl (hb hby at_69) rfl kz) ?_
      show Go p e below _ T0 (mkF m 71 #[.val (.int x0), .val (.int x1), .val (.int x2), .val (.int x3), .val (.int x4), .val (.int x5), .val (.int (own_I mx)), .val (.int sm), .val (.int v1), .val (.int v2), .val (.int w1), .unset, .unset, .unset, .unset, .unset, .unset] [(.int x4)])
      refine Go.of (fun _ kz => XS.iconst X0.here hx rfl (hb hby at_71) kz) ?_
      show Go p e below _ T0 (mkF m 72 #[.val (.int x0), .val (.int x1), .val (.int x2), .val (.int x3), .val (.int x4), .val (.int x5), .val (.int (own_I mx)), .val (.int sm), .val (.int v1), .val (.int v2), .val (.int w1), .unset, .unset, .unset, .unset, .unset, .unset] [(.int (3 : Int32)), (.int x4)])
      refine Go.of (fun _ kz => XS.iand X0.here hx rfl (hb hby at_72) rfl kz) ?_
      show Go p e below _ T0 (mkF m 73 #[.val (.int x0), .val (.int x1), .val (.int x2), .val (.int x3), .val (.int x4), .val (.int x5), .val (.int (own_I mx)), .val (.int sm), .val (.int v1), .val (.int v2), .val (.int w1), .unset, .unset, .unset, .unset, .unset, .unset] [(.int (x4 &&& (3 : Int32)))])
      refine Go.of (fun _ kz => XS.goto X0.here hx rfl (pc0 := 73) (pc' := 78) rfl (hb hby at_73) (by decide) (by decide) kz) ?_
      show Go p e below _ T0 (mkF m 78 #[.val (.int x0), .val (.int x1), .val (.int x2), .val (.int x3), .val (.int x4), .val (.int x5), .val (.int (own_I mx)), .val (.int sm), .val (.int v1), .val (.int v2), .val (.int w1), .unset, .unset, .unset, .unset, .unset, .unset] [(.int (x4 &&& (3 : Int32)))])
      exact km66 _ (if_neg hc66).symm
  intro w2 hu_w2
  show Go p e below _ T0 (mkF m 78 #[.val (.int x0), .val (.int x1), .val (.int x2), .val (.int x3), .val (.int x4), .val (.int x5), .val (.int (own_I mx)), .val (.int sm), .val (.int v1), .val (.int v2), .val (.int w1), .unset, .unset, .unset, .unset, .unset, .unset] [(.int w2)])
  refine Go.of (fun _ kz => XS.istore X0.here hx rfl (hb hby at_78) rfl (l' := #[.val (.int x0), .val (.int x1), .val (.int x2), .val (.int x3), .val (.int x4), .val (.int x5), .val (.int (own_I mx)), .val (.int sm), .val (.int v1), .val (.int v2), .val (.int w1), .val (.int w2), .unset, .unset, .unset, .unset, .unset]) rfl kz) ?_
  show Go p e below _ T0 (mkF m 80 #[.val (.int x0), .val (.int x1), .val (.int x2), .val (.int x3), .val (.int x4), .val (.int x5), .val (.int (own_I mx)), .val (.int sm), .val (.int v1), .val (.int v2), .val (.int w1), .val (.int w2), .unset, .unset, .unset, .unset, .unset] [])
  refine Go.of (fun _ kz => XS.iloadN X0.here hx rfl (hb hby at_80) rfl kz) ?_
  show Go p e below _ T0 (mkF m 81 #[.val (.int x0), .val (.int x1), .val (.int x2), .val (.int x3), .val (.int x4), .val (.int x5), .val (.int (own_I mx)), .val (.int sm), .val (.int v1), .val (.int v2), .val (.int w1), .val (.int w2), .unset, .unset, .unset, .unset, .unset] [(.int x0)])
  refine Go.of (fun _ kz => XS.iconst X0.here hx rfl (hb hby at_81) kz) ?_
  show Go p e below _ T0 (mkF m 82 #[.val (.int x0), .val (.int x1), .val (.int x2), .val (.int x3), .val (.int x4), .val (.int x5), .val (.int (own_I mx)), .val (.int sm), .val (.int v1), .val (.int v2), .val (.int w1), .val (.int w2), .unset, .unset, .unset, .unset, .unset] [(.int (3 : Int32)), (.int x0)])
  refine Go.of (fun _ kz => XS.iand X0.here hx rfl (hb hby at_82) rfl kz) ?_
  show Go p e below _ T0 (mkF m 83 #[.val (.int x0), .val (.int x1), .val (.int x2), .val (.int x3), .val (.int x4), .val (.int x5), .val (.int (own_I mx)), .val (.int sm), .val (.int v1), .val (.int v2), .val (.int w1), .val (.int w2), .unset, .unset, .unset, .unset, .unset] [(.int (x0 &&& (3 : Int32)))])
  obtain ⟨na, hna, lna⟩ := own_mask3 x0
  rw [hna]
  show Go p e below _ T0 (mkF m 83 #[.val (.int x0), .val (.int x1), .val (.int x2), .val (.int x3), .val (.int x4), .val (.int x5), .val (.int (own_I mx)), .val (.int sm), .val (.int v1), .val (.int v2), .val (.int w1), .val (.int w2), .unset, .unset, .unset, .unset, .unset] [(.int (own_I na))])
  refine Go.of (fun _ kz => XS.istore X0.here hx rfl (hb hby at_83) rfl (l' := #[.val (.int x0), .val (.int x1), .val (.int x2), .val (.int x3), .val (.int x4), .val (.int x5), .val (.int (own_I mx)), .val (.int sm), .val (.int v1), .val (.int v2), .val (.int w1), .val (.int w2), .val (.int (own_I na)), .unset, .unset, .unset, .unset]) rfl kz) ?_
  show Go p e below _ T0 (mkF m 85 #[.val (.int x0), .val (.int x1), .val (.int x2), .val (.int x3), .val (.int x4), .val (.int x5), .val (.int (own_I mx)), .val (.int sm), .val (.int v1), .val (.int v2), .val (.int w1), .val (.int w2), .val (.int (own_I na)), .unset, .unset, .unset, .unset] [])
  refine Go.of (fun _ kz => XS.iloadN X0.here hx rfl (hb hby at_85) rfl kz) ?_
  show Go p e below _ T0 (mkF m 86 #[.val (.int x0), .val (.int x1), .val (.int x2), .val (.int x3), .val (.int x4), .val (.int x5), .val (.int (own_I mx)), .val (.int sm), .val (.int v1), .val (.int v2), .val (.int w1), .val (.int w2), .val (.int (own_I na)), .unset, .unset, .unset, .unset] [(.int x0)])
  refine Go.of (fun _ kz => XS.iconst X0.here hx rfl (hb hby at_86) kz) ?_
  show Go p e below _ T0 (mkF m 87 #[.val (.int x0), .val (.int x1), .val (.int x2), .val (.int x3), .val (.int x4), .val (.int x5), .val (.int (own_I mx)), .val (.int sm), .val (.int v1), .val (.int v2), .val (.int w1), .val (.int w2), .val (.int (own_I na)), .unset, .unset, .unset, .unset] [(.int (2 : Int32)), (.int x0)])
  refine Go.of (fun _ kz => XS.ishr X0.here hx rfl (hb hby at_87) rfl kz) ?_
  show Go p e below _ T0 (mkF m 88 #[.val (.int x0), .val (.int x1), .val (.int x2), .val (.int x3), .val (.int x4), .val (.int x5), .val (.int (own_I mx)), .val (.int sm), .val (.int v1), .val (.int v2), .val (.int w1), .val (.int w2), .val (.int (own_I na)), .unset, .unset, .unset, .unset] [(.int (x0 >>> ((2 : Int32) &&& 31)))])
  refine Go.of (fun _ kz => XS.iconst X0.here hx rfl (hb hby at_88) kz) ?_
  show Go p e below _ T0 (mkF m 89 #[.val (.int x0), .val (.int x1), .val (.int x2), .val (.int x3), .val (.int x4), .val (.int x5), .val (.int (own_I mx)), .val (.int sm), .val (.int v1), .val (.int v2), .val (.int w1), .val (.int w2), .val (.int (own_I na)), .unset, .unset, .unset, .unset] [(.int (3 : Int32)), (.int (x0 >>> ((2 : Int32) &&& 31)))])
  refine Go.of (fun _ kz => XS.iand X0.here hx rfl (hb hby at_89) rfl kz) ?_
  show Go p e below _ T0 (mkF m 90 #[.val (.int x0), .val (.int x1), .val (.int x2), .val (.int x3), .val (.int x4), .val (.int x5), .val (.int (own_I mx)), .val (.int sm), .val (.int v1), .val (.int v2), .val (.int w1), .val (.int w2), .val (.int (own_I na)), .unset, .unset, .unset, .unset] [(.int ((x0 >>> ((2 : Int32) &&& 31)) &&& (3 : Int32)))])
  obtain ⟨nb, hnb, lnb⟩ := own_mask3 (x0 >>> ((2 : Int32) &&& 31))
  rw [hnb]
  show Go p e below _ T0 (mkF m 90 #[.val (.int x0), .val (.int x1), .val (.int x2), .val (.int x3), .val (.int x4), .val (.int x5), .val (.int (own_I mx)), .val (.int sm), .val (.int v1), .val (.int v2), .val (.int w1), .val (.int w2), .val (.int (own_I na)), .unset, .unset, .unset, .unset] [(.int (own_I nb))])
  refine Go.of (fun _ kz => XS.istore X0.here hx rfl (hb hby at_90) rfl (l' := #[.val (.int x0), .val (.int x1), .val (.int x2), .val (.int x3), .val (.int x4), .val (.int x5), .val (.int (own_I mx)), .val (.int sm), .val (.int v1), .val (.int v2), .val (.int w1), .val (.int w2), .val (.int (own_I na)), .val (.int (own_I nb)), .unset, .unset, .unset]) rfl kz) ?_
  show Go p e below _ T0 (mkF m 92 #[.val (.int x0), .val (.int x1), .val (.int x2), .val (.int x3), .val (.int x4), .val (.int x5), .val (.int (own_I mx)), .val (.int sm), .val (.int v1), .val (.int v2), .val (.int w1), .val (.int w2), .val (.int (own_I na)), .val (.int (own_I nb)), .unset, .unset, .unset] [])
  refine Go.of (fun _ kz => XS.iload X0.here hx rfl (hb hby at_92) rfl kz) ?_
  show Go p e below _ T0 (mkF m 94 #[.val (.int x0), .val (.int x1), .val (.int x2), .val (.int x3), .val (.int x4), .val (.int x5), .val (.int (own_I mx)), .val (.int sm), .val (.int v1), .val (.int v2), .val (.int w1), .val (.int w2), .val (.int (own_I na)), .val (.int (own_I nb)), .unset, .unset, .unset] [(.int (own_I na))])
  refine Go.of (fun _ kz => XS.iconst X0.here hx rfl (hb hby at_94) kz) ?_
  show Go p e below _ T0 (mkF m 95 #[.val (.int x0), .val (.int x1), .val (.int x2), .val (.int x3), .val (.int x4), .val (.int x5), .val (.int (own_I mx)), .val (.int sm), .val (.int v1), .val (.int v2), .val (.int w1), .val (.int w2), .val (.int (own_I na)), .val (.int (own_I nb)), .unset, .unset, .unset] [(.int (3 : Int32)), (.int (own_I na))])
  by_cases hc95 : (own_I na) = (3 : Int32)
  ·
    refine Go.of (fun _ kz => XS.icmpNo X0.here hx rfl (hb hby at_95) rfl (teq hc95).2 kz) ?_
    show Go p e below _ T0 (mkF m 98 #[.val (.int x0), .val (.int x1), .val (.int x2), .val (.int x3), .val (.int x4), .val (.int x5), .val (.int (own_I mx)), .val (.int sm), .val (.int v1), .val (.int v2), .val (.int w1), .val (.int w2), .val (.int (own_I na)), .val (.int (own_I nb)), .unset, .unset, .unset] [])
    refine Go.of (fun _ kz => XS.iconst X0.here hx rfl (hb hby at_98) kz) ?_
    show Go p e below _ T0 (mkF m 99 #[.val (.int x0), .val (.int x1), .val (.int x2), .val (.int x3), .val (.int x4), .val (.int x5), .val (.int (own_I mx)), .val (.int sm), .val (.int v1), .val (.int v2), .val (.int w1), .val (.int w2), .val (.int (own_I na)), .val (.int (own_I nb)), .unset, .unset, .unset] [(.int (2 : Int32))])
    refine Go.newarr X0 hx hZ (hw _ (List.mem_of_getElem? (i := 4) rfl)) e0 2 (by decide) (by decide) (by decide) (by decide) (by decide) (hb hby at_99) fun T1 h1 b1 k1 g1 X1 e1 E1 V1 => ?_
    have ge_b1 : h0.size ≤ b1 := g1 ▸ (Nat.le_refl _)
    have sz1 : h0.size ≤ h1.size := Nat.le_trans (Nat.le_refl _) E1.1
    have V1 : Arv Z h1 b1 k1 .int (2 : Int32) [(.int (0 : Int32)), (.int (0 : Int32))] (.int (0 : Int32)) := V1
    show Go p e below _ T1 (mkF m 101 #[.val (.int x0), .val (.int x1), .val (.int x2), .val (.int x3), .val (.int x4), .val (.int x5), .val (.int (own_I mx)), .val (.int sm), .val (.int v1), .val (.int v2), .val (.int w1), .val (.int w2), .val (.int (own_I na)), .val (.int (own_I nb)), .unset, .unset, .unset] [(.ref b1)])
    refine Go.of (fun _ kz => XS.dup X1.here hx rfl (hb hby at_101) rfl rfl kz) ?_
    show Go p e below _ T1 (mkF m 102 #[.val (.int x0), .val (.int x1), .val (.int x2), .val (.int x3), .val (.int x4), .val (.int x5), .val (.int (own_I mx)), .val (.int sm), .val (.int v1), .val (.int v2), .val (.int w1), .val (.int w2), .val (.int (own_I na)), .val (.int (own_I nb)), .unset, .unset, .unset] [(.ref b1), (.ref b1)])
    refine Go.of (fun _ kz => XS.iconst X1.here hx rfl (hb hby at_102) kz) ?_
    show Go p e below _ T1 (mkF m 103 #[.val (.int x0), .val (.int x1), .val (.int x2), .val (.int x3), .val (.int x4), .val (.int x5), .val (.int (own_I mx)), .val (.int sm), .val (.int v1), .val (.int v2), .val (.int w1), .val (.int w2), .val (.int (own_I na)), .val (.int (own_I nb)), .unset, .unset, .unset] [(.int (0 : Int32)), (.ref b1), (.ref b1)])
    refine Go.of (fun _ kz => XS.iload X1.here hx rfl (hb hby at_103) rfl kz) ?_
    show Go p e below _ T1 (mkF m 105 #[.val (.int x0), .val (.int x1), .val (.int x2), .val (.int x3), .val (.int x4), .val (.int x5), .val (.int (own_I mx)), .val (.int sm), .val (.int v1), .val (.int v2), .val (.int w1), .val (.int w2), .val (.int (own_I na)), .val (.int (own_I nb)), .unset, .unset, .unset] [(.int v1), (.int (0 : Int32)), (.ref b1), (.ref b1)])
    refine Go.iastore X1 hx hZ e1 V1 ⟨by decide, by decide⟩ 0 rfl (Nat.le_of_ble_eq_true rfl) (hb hby at_105) fun T2 h2 X2 e2 W2 V2 => ?_
    have sz2 : h0.size ≤ h2.size := Nat.le_trans sz1 (Keep.of_wr W2).1
    have N2 := Fr.snoc X2 (Fr.nil _) ge_b1
    have V2 : Arv Z h2 b1 k1 .int (2 : Int32) [(.int v1), (.int (0 : Int32))] (.int (0 : Int32)) := V2
    show Go p e below _ T2 (mkF m 106 #[.val (.int x0), .val (.int x1), .val (.int x2), .val (.int x3), .val (.int x4), .val (.int x5), .val (.int (own_I mx)), .val (.int sm), .val (.int v1), .val (.int v2), .val (.int w1), .val (.int w2), .val (.int (own_I na)), .val (.int (own_I nb)), .unset, .unset, .unset] [(.ref b1)])
    refine Go.of (fun _ kz => XS.dup X2.here hx rfl (hb hby at_106) rfl rfl kz) ?_
    show Go p e below _ T2 (mkF m 107 #[.val (.int x0), .val (.int x1), .val (.int x2), .val (.int x3), .val (.int x4), .val (.int x5), .val (.int (own_I mx)), .val (.int sm), .val (.int v1), .val (.int v2), .val (.int w1), .val (.int w2), .val (.int (own_I na)), .val (.int (own_I nb)), .unset, .unset, .unset] [(.ref b1), (.ref b1)])
    refine Go.of (fun _ kz => XS.iconst X2.here hx rfl (hb hby at_107) kz) ?_
    show Go p e below _ T2 (mkF m 108 #[.val (.int x0), .val (.int x1), .val (.int x2), .val (.int x3), .val (.int x4), .val (.int x5), .val (.int (own_I mx)), .val (.int sm), .val (.int v1), .val (.int v2), .val (.int w1), .val (.int w2), .val (.int (own_I na)), .val (.int (own_I nb)), .unset, .unset, .unset] [(.int (1 : Int32)), (.ref b1), (.ref b1)])
    refine Go.of (fun _ kz => XS.iload X2.here hx rfl (hb hby at_108) rfl kz) ?_
    show Go p e below _ T2 (mkF m 110 #[.val (.int x0), .val (.int x1), .val (.int x2), .val (.int x3), .val (.int x4), .val (.int x5), .val (.int (own_I mx)), .val (.int sm), .val (.int v1), .val (.int v2), .val (.int w1), .val (.int w2), .val (.int (own_I na)), .val (.int (own_I nb)), .unset, .unset, .unset] [(.int v2), (.int (1 : Int32)), (.ref b1), (.ref b1)])
    refine Go.iastore X2 hx hZ e2 V2 ⟨by decide, by decide⟩ 1 rfl (Nat.le_of_ble_eq_true rfl) (hb hby at_110) fun T3 h3 X3 e3 W3 V3 => ?_
    have sz3 : h0.size ≤ h3.size := Nat.le_trans sz2 (Keep.of_wr W3).1
    have N3 := Fr.snoc X3 N2 ge_b1
    have V3 : Arv Z h3 b1 k1 .int (2 : Int32) [(.int v1), (.int v2)] (.int (0 : Int32)) := V3
    show Go p e below _ T3 (mkF m 111 #[.val (.int x0), .val (.int x1), .val (.int x2), .val (.int x3), .val (.int x4), .val (.int x5), .val (.int (own_I mx)), .val (.int sm), .val (.int v1), .val (.int v2), .val (.int w1), .val (.int w2), .val (.int (own_I na)), .val (.int (own_I nb)), .unset, .unset, .unset] [(.ref b1)])
    refine Go.of (fun _ kz => XS.astore X3.here hx rfl (hb hby at_111) rfl rfl (l' := #[.val (.int x0), .val (.int x1), .val (.int x2), .val (.int x3), .val (.int x4), .val (.int x5), .val (.int (own_I mx)), .val (.int sm), .val (.int v1), .val (.int v2), .val (.int w1), .val (.int w2), .val (.int (own_I na)), .val (.int (own_I nb)), .val (.ref b1), .unset, .unset]) rfl kz) ?_
    show Go p e below _ T3 (mkF m 113 #[.val (.int x0), .val (.int x1), .val (.int x2), .val (.int x3), .val (.int x4), .val (.int x5), .val (.int (own_I mx)), .val (.int sm), .val (.int v1), .val (.int v2), .val (.int w1), .val (.int w2), .val (.int (own_I na)), .val (.int (own_I nb)), .val (.ref b1), .unset, .unset] [])
    refine Go.of (fun _ kz => XS.iconst X3.here hx rfl (hb hby at_113) kz) ?_
    show Go p e below _ T3 (mkF m 114 #[.val (.int x0), .val (.int x1), .val (.int x2), .val (.int x3), .val (.int x4), .val (.int x5), .val (.int (own_I mx)), .val (.int sm), .val (.int v1), .val (.int v2), .val (.int w1), .val (.int w2), .val (.int (own_I na)), .val (.int (own_I nb)), .val (.ref b1), .unset, .unset] [(.int (3 : Int32))])
    refine Go.newarr X3 hx hZ (hw _ (List.mem_of_getElem? (i := 4) rfl)) e3 3 (by decide) (by decide) (by decide) (by decide) (by decide) (hb hby at_114) fun T4 h4 b4 k4 g4 X4 e4 E4 V4 => ?_
    have lt_b1_b4 : b1 < b4 := Nat.lt_of_lt_of_le V3.lt (Nat.le_of_eq g4.symm)
    have ge_b4 : h0.size ≤ b4 := g4 ▸ sz3
    have sz4 : h0.size ≤ h4.size := Nat.le_trans sz3 E4.1
    have V4 : Arv Z h4 b4 k4 .int (3 : Int32) [(.int (0 : Int32)), (.int (0 : Int32)), (.int (0 : Int32))] (.int (0 : Int32)) := V4
    show Go p e below _ T4 (mkF m 116 #[.val (.int x0), .val (.int x1), .val (.int x2), .val (.int x3), .val (.int x4), .val (.int x5), .val (.int (own_I mx)), .val (.int sm), .val (.int v1), .val (.int v2), .val (.int w1), .val (.int w2), .val (.int (own_I na)), .val (.int (own_I nb)), .val (.ref b1), .unset, .unset] [(.ref b4)])
    refine Go.of (fun _ kz => XS.dup X4.here hx rfl (hb hby at_116) rfl rfl kz) ?_
    show Go p e below _ T4 (mkF m 117 #[.val (.int x0), .val (.int x1), .val (.int x2), .val (.int x3), .val (.int x4), .val (.int x5), .val (.int (own_I mx)), .val (.int sm), .val (.int v1), .val (.int v2), .val (.int w1), .val (.int w2), .val (.int (own_I na)), .val (.int (own_I nb)), .val (.ref b1), .unset, .unset] [(.ref b4), (.ref b4)])
    refine Go.of (fun _ kz => XS.iconst X4.here hx rfl (hb hby at_117) kz) ?_
    show Go p e below _ T4 (mkF m 118 #[.val (.int x0), .val (.int x1), .val (.int x2), .val (.int x3), .val (.int x4), .val (.int x5), .val (.int (own_I mx)), .val (.int sm), .val (.int v1), .val (.int v2), .val (.int w1), .val (.int w2), .val (.int (own_I na)), .val (.int (own_I nb)), .val (.ref b1), .unset, .unset] [(.int (0 : Int32)), (.ref b4), (.ref b4)])
    refine Go.of (fun _ kz => XS.iload X4.here hx rfl (hb hby at_118) rfl kz) ?_
    show Go p e below _ T4 (mkF m 120 #[.val (.int x0), .val (.int x1), .val (.int x2), .val (.int x3), .val (.int x4), .val (.int x5), .val (.int (own_I mx)), .val (.int sm), .val (.int v1), .val (.int v2), .val (.int w1), .val (.int w2), .val (.int (own_I na)), .val (.int (own_I nb)), .val (.ref b1), .unset, .unset] [(.int v2), (.int (0 : Int32)), (.ref b4), (.ref b4)])
    refine Go.iastore X4 hx hZ e4 V4 ⟨by decide, by decide⟩ 0 rfl (Nat.le_of_ble_eq_true rfl) (hb hby at_120) fun T5 h5 X5 e5 W5 V5 => ?_
    have sz5 : h0.size ≤ h5.size := Nat.le_trans sz4 (Keep.of_wr W5).1
    have N5 := Fr.snoc X5 N3 ge_b4
    have V5 : Arv Z h5 b4 k4 .int (3 : Int32) [(.int v2), (.int (0 : Int32)), (.int (0 : Int32))] (.int (0 : Int32)) := V5
    show Go p e below _ T5 (mkF m 121 #[.val (.int x0), .val (.int x1), .val (.int x2), .val (.int x3), .val (.int x4), .val (.int x5), .val (.int (own_I mx)), .val (.int sm), .val (.int v1), .val (.int v2), .val (.int w1), .val (.int w2), .val (.int (own_I na)), .val (.int (own_I nb)), .val (.ref b1), .unset, .unset] [(.ref b4)])
    refine Go.of (fun _ kz => XS.dup X5.here hx rfl (hb hby at_121) rfl rfl kz) ?_
    show Go p e below _ T5 (mkF m 122 #[.val (.int x0), .val (.int x1), .val (.int x2), .val (.int x3), .val (.int x4), .val (.int x5), .val (.int (own_I mx)), .val (.int sm), .val (.int v1), .val (.int v2), .val (.int w1), .val (.int w2), .val (.int (own_I na)), .val (.int (own_I nb)), .val (.ref b1), .unset, .unset] [(.ref b4), (.ref b4)])
    refine Go.of (fun _ kz => XS.iconst X5.here hx rfl (hb hby at_122) kz) ?_
    show Go p e below _ T5 (mkF m 123 #[.val (.int x0), .val (.int x1), .val (.int x2), .val (.int x3), .val (.int x4), .val (.int x5), .val (.int (own_I mx)), .val (.int sm), .val (.int v1), .val (.int v2), .val (.int w1), .val (.int w2), .val (.int (own_I na)), .val (.int (own_I nb)), .val (.ref b1), .unset, .unset] [(.int (1 : Int32)), (.ref b4), (.ref b4)])
    refine Go.of (fun _ kz => XS.iload X5.here hx rfl (hb hby at_123) rfl kz) ?_
    show Go p e below _ T5 (mkF m 125 #[.val (.int x0), .val (.int x1), .val (.int x2), .val (.int x3), .val (.int x4), .val (.int x5), .val (.int (own_I mx)), .val (.int sm), .val (.int v1), .val (.int v2), .val (.int w1), .val (.int w2), .val (.int (own_I na)), .val (.int (own_I nb)), .val (.ref b1), .unset, .unset] [(.int w1), (.int (1 : Int32)), (.ref b4), (.ref b4)])
    refine Go.iastore X5 hx hZ e5 V5 ⟨by decide, by decide⟩ 1 rfl (Nat.le_of_ble_eq_true rfl) (hb hby at_125) fun T6 h6 X6 e6 W6 V6 => ?_
    have sz6 : h0.size ≤ h6.size := Nat.le_trans sz5 (Keep.of_wr W6).1
    have N6 := Fr.snoc X6 N5 ge_b4
    have V6 : Arv Z h6 b4 k4 .int (3 : Int32) [(.int v2), (.int w1), (.int (0 : Int32))] (.int (0 : Int32)) := V6
    show Go p e below _ T6 (mkF m 126 #[.val (.int x0), .val (.int x1), .val (.int x2), .val (.int x3), .val (.int x4), .val (.int x5), .val (.int (own_I mx)), .val (.int sm), .val (.int v1), .val (.int v2), .val (.int w1), .val (.int w2), .val (.int (own_I na)), .val (.int (own_I nb)), .val (.ref b1), .unset, .unset] [(.ref b4)])
    refine Go.of (fun _ kz => XS.dup X6.here hx rfl (hb hby at_126) rfl rfl kz) ?_
    show Go p e below _ T6 (mkF m 127 #[.val (.int x0), .val (.int x1), .val (.int x2), .val (.int x3), .val (.int x4), .val (.int x5), .val (.int (own_I mx)), .val (.int sm), .val (.int v1), .val (.int v2), .val (.int w1), .val (.int w2), .val (.int (own_I na)), .val (.int (own_I nb)), .val (.ref b1), .unset, .unset] [(.ref b4), (.ref b4)])
    refine Go.of (fun _ kz => XS.iconst X6.here hx rfl (hb hby at_127) kz) ?_
    show Go p e below _ T6 (mkF m 128 #[.val (.int x0), .val (.int x1), .val (.int x2), .val (.int x3), .val (.int x4), .val (.int x5), .val (.int (own_I mx)), .val (.int sm), .val (.int v1), .val (.int v2), .val (.int w1), .val (.int w2), .val (.int (own_I na)), .val (.int (own_I nb)), .val (.ref b1), .unset, .unset] [(.int (2 : Int32)), (.ref b4), (.ref b4)])
    refine Go.of (fun _ kz => XS.iload X6.here hx rfl (hb hby at_128) rfl kz) ?_
    show Go p e below _ T6 (mkF m 130 #[.val (.int x0), .val (.int x1), .val (.int x2), .val (.int x3), .val (.int x4), .val (.int x5), .val (.int (own_I mx)), .val (.int sm), .val (.int v1), .val (.int v2), .val (.int w1), .val (.int w2), .val (.int (own_I na)), .val (.int (own_I nb)), .val (.ref b1), .unset, .unset] [(.int v1), (.int (2 : Int32)), (.ref b4), (.ref b4)])
    refine Go.iastore X6 hx hZ e6 V6 ⟨by decide, by decide⟩ 2 rfl (Nat.le_of_ble_eq_true rfl) (hb hby at_130) fun T7 h7 X7 e7 W7 V7 => ?_
    have sz7 : h0.size ≤ h7.size := Nat.le_trans sz6 (Keep.of_wr W7).1
    have N7 := Fr.snoc X7 N6 ge_b4
    have V7 : Arv Z h7 b4 k4 .int (3 : Int32) [(.int v2), (.int w1), (.int v1)] (.int (0 : Int32)) := V7
    show Go p e below _ T7 (mkF m 131 #[.val (.int x0), .val (.int x1), .val (.int x2), .val (.int x3), .val (.int x4), .val (.int x5), .val (.int (own_I mx)), .val (.int sm), .val (.int v1), .val (.int v2), .val (.int w1), .val (.int w2), .val (.int (own_I na)), .val (.int (own_I nb)), .val (.ref b1), .unset, .unset] [(.ref b4)])
    refine Go.of (fun _ kz => XS.astore X7.here hx rfl (hb hby at_131) rfl rfl (l' := #[.val (.int x0), .val (.int x1), .val (.int x2), .val (.int x3), .val (.int x4), .val (.int x5), .val (.int (own_I mx)), .val (.int sm), .val (.int v1), .val (.int v2), .val (.int w1), .val (.int w2), .val (.int (own_I na)), .val (.int (own_I nb)), .val (.ref b1), .val (.ref b4), .unset]) rfl kz) ?_
    show Go p e below _ T7 (mkF m 133 #[.val (.int x0), .val (.int x1), .val (.int x2), .val (.int x3), .val (.int x4), .val (.int x5), .val (.int (own_I mx)), .val (.int sm), .val (.int v1), .val (.int v2), .val (.int w1), .val (.int w2), .val (.int (own_I na)), .val (.int (own_I nb)), .val (.ref b1), .val (.ref b4), .unset] [])
    refine Go.of (fun _ kz => XS.iload X7.here hx rfl (hb hby at_133) rfl kz) ?_
    show Go p e below _ T7 (mkF m 135 #[.val (.int x0), .val (.int x1), .val (.int x2), .val (.int x3), .val (.int x4), .val (.int x5), .val (.int (own_I mx)), .val (.int sm), .val (.int v1), .val (.int v2), .val (.int w1), .val (.int w2), .val (.int (own_I na)), .val (.int (own_I nb)), .val (.ref b1), .val (.ref b4), .unset] [(.int v1)])
    refine Go.of (fun _ kz => XS.iload X7.here hx rfl (hb hby at_135) rfl kz) ?_
    show Go p e below _ T7 (mkF m 137 #[.val (.int x0), .val (.int x1), .val (.int x2), .val (.int x3), .val (.int x4), .val (.int x5), .val (.int (own_I mx)), .val (.int sm), .val (.int v1), .val (.int v2), .val (.int w1), .val (.int w2), .val (.int (own_I na)), .val (.int (own_I nb)), .val (.ref b1), .val (.ref b4), .unset] [(.int v2), (.int v1)])
    suffices km137 : ∀ (dd : Int32), dd = (if v1 = v2 then (1 : Int32) else (2 : Int32)) → Go p e below (GoEnd s room_1.cells room_1.slots (fun v _ L => v = some (.int 1) ∧ Fr h0.size L)) T7 (mkF m 145 #[.val (.int x0), .val (.int x1), .val (.int x2), .val (.int x3), .val (.int x4), .val (.int x5), .val (.int (own_I mx)), .val (.int sm), .val (.int v1), .val (.int v2), .val (.int w1), .val (.int w2), .val (.int (own_I na)), .val (.int (own_I nb)), .val (.ref b1), .val (.ref b4), .unset] [(.int dd)]) by
      by_cases hc137 : v1 = v2
      ·
        refine Go.of (fun _ kz => XS.icmpNo X7.here hx rfl (hb hby at_137) rfl (teq hc137).2 kz) ?_
        show Go p e below _ T7 (mkF m 140 #[.val (.int x0), .val (.int x1), .val (.int x2), .val (.int x3), .val (.int x4), .val (.int x5), .val (.int (own_I mx)), .val (.int sm), .val (.int v1), .val (.int v2), .val (.int w1), .val (.int w2), .val (.int (own_I na)), .val (.int (own_I nb)), .val (.ref b1), .val (.ref b4), .unset] [])
        refine Go.of (fun _ kz => XS.iconst X7.here hx rfl (hb hby at_140) kz) ?_
        show Go p e below _ T7 (mkF m 141 #[.val (.int x0), .val (.int x1), .val (.int x2), .val (.int x3), .val (.int x4), .val (.int x5), .val (.int (own_I mx)), .val (.int sm), .val (.int v1), .val (.int v2), .val (.int w1), .val (.int w2), .val (.int (own_I na)), .val (.int (own_I nb)), .val (.ref b1), .val (.ref b4), .unset] [(.int (1 : Int32))])
        refine Go.of (fun _ kz => XS.goto X7.here hx rfl (pc0 := 141) (pc' := 145) rfl (hb hby at_141) (by decide) (by decide) kz) ?_
        show Go p e below _ T7 (mkF m 145 #[.val (.int x0), .val (.int x1), .val (.int x2), .val (.int x3), .val (.int x4), .val (.int x5), .val (.int (own_I mx)), .val (.int sm), .val (.int v1), .val (.int v2), .val (.int w1), .val (.int w2), .val (.int (own_I na)), .val (.int (own_I nb)), .val (.ref b1), .val (.ref b4), .unset] [(.int (1 : Int32))])
        exact km137 _ (if_pos hc137).symm
      ·
        refine Go.of (fun _ kz => XS.icmpYes X7.here hx rfl (pc0 := 137) (pc' := 144) rfl (hb hby at_137) rfl (feq hc137).2 (by decide) (by decide) kz) ?_
        show Go p e below _ T7 (mkF m 144 #[.val (.int x0), .val (.int x1), .val (.int x2), .val (.int x3), .val (.int x4), .val (.int x5), .val (.int (own_I mx)), .val (.int sm), .val (.int v1), .val (.int v2), .val (.int w1), .val (.int w2), .val (.int (own_I na)), .val (.int (own_I nb)), .val (.ref b1), .val (.ref b4), .unset] [])
        refine Go.of (fun _ kz => XS.iconst X7.here hx rfl (hb hby at_144) kz) ?_
        show Go p e below _ T7 (mkF m 145 #[.val (.int x0), .val (.int x1), .val (.int x2), .val (.int x3), .val (.int x4), .val (.int x5), .val (.int (own_I mx)), .val (.int sm), .val (.int v1), .val (.int v2), .val (.int w1), .val (.int w2), .val (.int (own_I na)), .val (.int (own_I nb)), .val (.ref b1), .val (.ref b4), .unset] [(.int (2 : Int32))])
        exact km137 _ (if_neg hc137).symm
    intro dd hu_dd
    show Go p e below _ T7 (mkF m 145 #[.val (.int x0), .val (.int x1), .val (.int x2), .val (.int x3), .val (.int x4), .val (.int x5), .val (.int (own_I mx)), .val (.int sm), .val (.int v1), .val (.int v2), .val (.int w1), .val (.int w2), .val (.int (own_I na)), .val (.int (own_I nb)), .val (.ref b1), .val (.ref b4), .unset] [(.int dd)])
    refine Go.of (fun _ kz => XS.istore X7.here hx rfl (hb hby at_145) rfl (l' := #[.val (.int x0), .val (.int x1), .val (.int x2), .val (.int x3), .val (.int x4), .val (.int x5), .val (.int (own_I mx)), .val (.int sm), .val (.int v1), .val (.int v2), .val (.int w1), .val (.int w2), .val (.int (own_I na)), .val (.int (own_I nb)), .val (.ref b1), .val (.ref b4), .val (.int dd)]) rfl kz) ?_
    show Go p e below _ T7 (mkF m 147 #[.val (.int x0), .val (.int x1), .val (.int x2), .val (.int x3), .val (.int x4), .val (.int x5), .val (.int (own_I mx)), .val (.int sm), .val (.int v1), .val (.int v2), .val (.int w1), .val (.int w2), .val (.int (own_I na)), .val (.int (own_I nb)), .val (.ref b1), .val (.ref b4), .val (.int dd)] [])
    refine Go.of (fun _ kz => XS.goto X7.here hx rfl (pc0 := 147) (pc' := 247) rfl (hb hby at_147) (by decide) (by decide) kz) ?_
    show Go p e below _ T7 (mkF m 247 #[.val (.int x0), .val (.int x1), .val (.int x2), .val (.int x3), .val (.int x4), .val (.int x5), .val (.int (own_I mx)), .val (.int sm), .val (.int v1), .val (.int v2), .val (.int w1), .val (.int w2), .val (.int (own_I na)), .val (.int (own_I nb)), .val (.ref b1), .val (.ref b4), .val (.int dd)] [])
    refine Go.of (fun _ kz => XS.aload X7.here hx rfl (hb hby at_247) rfl rfl kz) ?_
    show Go p e below _ T7 (mkF m 249 #[.val (.int x0), .val (.int x1), .val (.int x2), .val (.int x3), .val (.int x4), .val (.int x5), .val (.int (own_I mx)), .val (.int sm), .val (.int v1), .val (.int v2), .val (.int w1), .val (.int w2), .val (.int (own_I na)), .val (.int (own_I nb)), .val (.ref b1), .val (.ref b4), .val (.int dd)] [(.ref b1)])
    refine Go.of (fun _ kz => XS.aload X7.here hx rfl (hb hby at_249) rfl rfl kz) ?_
    show Go p e below _ T7 (mkF m 251 #[.val (.int x0), .val (.int x1), .val (.int x2), .val (.int x3), .val (.int x4), .val (.int x5), .val (.int (own_I mx)), .val (.int sm), .val (.int v1), .val (.int v2), .val (.int w1), .val (.int w2), .val (.int (own_I na)), .val (.int (own_I nb)), .val (.ref b1), .val (.ref b4), .val (.int dd)] [(.ref b4), (.ref b1)])
    refine Go.of (fun _ kz => XS.iload X7.here hx rfl (hb hby at_251) rfl kz) ?_
    show Go p e below _ T7 (mkF m 253 #[.val (.int x0), .val (.int x1), .val (.int x2), .val (.int x3), .val (.int x4), .val (.int x5), .val (.int (own_I mx)), .val (.int sm), .val (.int v1), .val (.int v2), .val (.int w1), .val (.int w2), .val (.int (own_I na)), .val (.int (own_I nb)), .val (.ref b1), .val (.ref b4), .val (.int dd)] [(.int (own_I mx)), (.ref b4), (.ref b1)])
    refine Go.callS (W := 0) (y := (⟨"com/example/keen_guess/keenguess/edit/EditDistance", "distance", "([I[II)I"⟩ : MethodName)) (argsL := [(.ref b1), (.ref b4), (.int (own_I mx))]) (rest := []) X7 hx hZ hown (hw _ (List.mem_of_getElem? (i := 8) rfl)) (hw _ (List.mem_of_getElem? (i := 9) rfl)) (hw _ (List.mem_of_getElem? (i := 10) rfl)) (hw _ (List.mem_of_getElem? (i := 11) rfl)) (by decide) (own_rmD l Z a0 hw b1 b4 k1 k4 2 3 (fun i => [v1, v2].getD i 0) (fun i => [v2, w1, v1].getD i 0) mx h7 (by decide) (by decide) lmx ((((V3.ext E4).other W5 (Nat.ne_of_lt lt_b1_b4)).other W6 (Nat.ne_of_lt lt_b1_b4)).other W7 (Nat.ne_of_lt lt_b1_b4)) V7) e7 (by rw [hml]; rfl) (lenOf own_dsc4 rfl) (hb hby at_253) rfl (Nat.le_of_eq rfl) (by decide) (by decide) (by decide) (by decide) fun _ T8 L8 X8 q8 => ?_
    obtain ⟨rfl, N8q⟩ := q8
    have N8 := Fr.app N7 (fun y hy => Nat.le_trans sz7 (N8q y hy))
    show Go p e below _ T8 (mkF m 256 #[.val (.int x0), .val (.int x1), .val (.int x2), .val (.int x3), .val (.int x4), .val (.int x5), .val (.int (own_I mx)), .val (.int sm), .val (.int v1), .val (.int v2), .val (.int w1), .val (.int w2), .val (.int (own_I na)), .val (.int (own_I nb)), .val (.ref b1), .val (.ref b4), .val (.int dd)] [(.int (own_dist (own_E 2 3 (fun i => [v1, v2].getD i 0) (fun i => [v2, w1, v1].getD i 0)) 2 3 mx))])
    refine Go.of (fun _ kz => XS.iload X8.here hx rfl (hb hby at_256) rfl kz) ?_
    show Go p e below _ T8 (mkF m 258 #[.val (.int x0), .val (.int x1), .val (.int x2), .val (.int x3), .val (.int x4), .val (.int x5), .val (.int (own_I mx)), .val (.int sm), .val (.int v1), .val (.int v2), .val (.int w1), .val (.int w2), .val (.int (own_I na)), .val (.int (own_I nb)), .val (.ref b1), .val (.ref b4), .val (.int dd)] [(.int dd), (.int (own_dist (own_E 2 3 (fun i => [v1, v2].getD i 0) (fun i => [v2, w1, v1].getD i 0)) 2 3 mx))])
    refine Go.of (fun _ kz => XS.iload X8.here hx rfl (hb hby at_258) rfl kz) ?_
    show Go p e below _ T8 (mkF m 260 #[.val (.int x0), .val (.int x1), .val (.int x2), .val (.int x3), .val (.int x4), .val (.int x5), .val (.int (own_I mx)), .val (.int sm), .val (.int v1), .val (.int v2), .val (.int w1), .val (.int w2), .val (.int (own_I na)), .val (.int (own_I nb)), .val (.ref b1), .val (.ref b4), .val (.int dd)] [(.int (own_I mx)), (.int dd), (.int (own_dist (own_E 2 3 (fun i => [v1, v2].getD i 0) (fun i => [v2, w1, v1].getD i 0)) 2 3 mx))])
    refine Go.of (fun _ kz => XS.iconst X8.here hx rfl (hb hby at_260) kz) ?_
    show Go p e below _ T8 (mkF m 261 #[.val (.int x0), .val (.int x1), .val (.int x2), .val (.int x3), .val (.int x4), .val (.int x5), .val (.int (own_I mx)), .val (.int sm), .val (.int v1), .val (.int v2), .val (.int w1), .val (.int w2), .val (.int (own_I na)), .val (.int (own_I nb)), .val (.ref b1), .val (.ref b4), .val (.int dd)] [(.int (1 : Int32)), (.int (own_I mx)), (.int dd), (.int (own_dist (own_E 2 3 (fun i => [v1, v2].getD i 0) (fun i => [v2, w1, v1].getD i 0)) 2 3 mx))])
    refine Go.of (fun _ kz => XS.iadd X8.here hx rfl (hb hby at_261) rfl kz) ?_
    show Go p e below _ T8 (mkF m 262 #[.val (.int x0), .val (.int x1), .val (.int x2), .val (.int x3), .val (.int x4), .val (.int x5), .val (.int (own_I mx)), .val (.int sm), .val (.int v1), .val (.int v2), .val (.int w1), .val (.int w2), .val (.int (own_I na)), .val (.int (own_I nb)), .val (.ref b1), .val (.ref b4), .val (.int dd)] [(.int ((own_I mx) + (1 : Int32))), (.int dd), (.int (own_dist (own_E 2 3 (fun i => [v1, v2].getD i 0) (fun i => [v2, w1, v1].getD i 0)) 2 3 mx))])
    refine Go.callSP (W := 1) (y := (⟨"java/lang/Math", "min", "(II)I"⟩ : MethodName)) (argsL := [(.int dd), (.int ((own_I mx) + (1 : Int32)))]) (rest := [(.int (own_dist (own_E 2 3 (fun i => [v1, v2].getD i 0) (fun i => [v2, w1, v1].getD i 0)) 2 3 mx))]) (r := some (.int (own_min dd ((own_I mx) + (1 : Int32))))) X8 hx hZ hown (hw _ (List.mem_of_getElem? (i := 21) rfl)) (hw _ (List.mem_of_getElem? (i := 19) rfl)) (hw _ (List.mem_of_getElem? (i := 14) rfl)) (hw _ (List.mem_of_getElem? (i := 20) rfl)) (by decide) (own_rmMin l Z a0 hw dd ((own_I mx) + (1 : Int32)) T8.heap) rfl (by rw [hml]; rfl) (lenOf own_dsc2 rfl) (hb hby at_262) rfl (Nat.le_of_eq rfl) (by decide) (by decide) (by decide) (by decide) fun T9 X9 e9 => ?_
    show Go p e below _ T9 (mkF m 265 #[.val (.int x0), .val (.int x1), .val (.int x2), .val (.int x3), .val (.int x4), .val (.int x5), .val (.int (own_I mx)), .val (.int sm), .val (.int v1), .val (.int v2), .val (.int w1), .val (.int w2), .val (.int (own_I na)), .val (.int (own_I nb)), .val (.ref b1), .val (.ref b4), .val (.int dd)] [(.int (own_min dd ((own_I mx) + (1 : Int32)))), (.int (own_dist (own_E 2 3 (fun i => [v1, v2].getD i 0) (fun i => [v2, w1, v1].getD i 0)) 2 3 mx))])
    refine Go.of (fun _ kz => XS.icmpNo X9.here hx rfl (hb hby at_265) rfl (teq (by rw [hu_dd]; exact own_fin23 lmx v1 v2 w1 : (own_dist (own_E 2 3 (fun i => [v1, v2].getD i 0) (fun i => [v2, w1, v1].getD i 0)) 2 3 mx) = (own_min dd ((own_I mx) + (1 : Int32))))).2 kz) ?_
    show Go p e below _ T9 (mkF m 268 #[.val (.int x0), .val (.int x1), .val (.int x2), .val (.int x3), .val (.int x4), .val (.int x5), .val (.int (own_I mx)), .val (.int sm), .val (.int v1), .val (.int v2), .val (.int w1), .val (.int w2), .val (.int (own_I na)), .val (.int (own_I nb)), .val (.ref b1), .val (.ref b4), .val (.int dd)] [])
    refine Go.of (fun _ kz => XS.iconst X9.here hx rfl (hb hby at_268) kz) ?_
    show Go p e below _ T9 (mkF m 269 #[.val (.int x0), .val (.int x1), .val (.int x2), .val (.int x3), .val (.int x4), .val (.int x5), .val (.int (own_I mx)), .val (.int sm), .val (.int v1), .val (.int v2), .val (.int w1), .val (.int w2), .val (.int (own_I na)), .val (.int (own_I nb)), .val (.ref b1), .val (.ref b4), .val (.int dd)] [(.int (1 : Int32))])
    refine Go.of (fun _ kz => XS.goto X9.here hx rfl (pc0 := 269) (pc' := 273) rfl (hb hby at_269) (by decide) (by decide) kz) ?_
    show Go p e below _ T9 (mkF m 273 #[.val (.int x0), .val (.int x1), .val (.int x2), .val (.int x3), .val (.int x4), .val (.int x5), .val (.int (own_I mx)), .val (.int sm), .val (.int v1), .val (.int v2), .val (.int w1), .val (.int w2), .val (.int (own_I na)), .val (.int (own_I nb)), .val (.ref b1), .val (.ref b4), .val (.int dd)] [(.int (1 : Int32))])
    exact Go.retN X9 hx hlk (t := .boolean) hret (by simp) (hb hby at_273) (by decide) (by decide) ⟨rfl, N8⟩
  ·
    refine Go.of (fun _ kz => XS.icmpYes X0.here hx rfl (pc0 := 95) (pc' := 150) rfl (hb hby at_95) rfl (feq hc95).2 (by decide) (by decide) kz) ?_
    show Go p e below _ T0 (mkF m 150 #[.val (.int x0), .val (.int x1), .val (.int x2), .val (.int x3), .val (.int x4), .val (.int x5), .val (.int (own_I mx)), .val (.int sm), .val (.int v1), .val (.int v2), .val (.int w1), .val (.int w2), .val (.int (own_I na)), .val (.int (own_I nb)), .unset, .unset, .unset] [])
    refine Go.of (fun _ kz => XS.iload X0.here hx rfl (hb hby at_150) rfl kz) ?_
    show Go p e below _ T0 (mkF m 152 #[.val (.int x0), .val (.int x1), .val (.int x2), .val (.int x3), .val (.int x4), .val (.int x5), .val (.int (own_I mx)), .val (.int sm), .val (.int v1), .val (.int v2), .val (.int w1), .val (.int w2), .val (.int (own_I na)), .val (.int (own_I nb)), .unset, .unset, .unset] [(.int (own_I nb))])
    refine Go.of (fun _ kz => XS.iconst X0.here hx rfl (hb hby at_152) kz) ?_
    show Go p e below _ T0 (mkF m 153 #[.val (.int x0), .val (.int x1), .val (.int x2), .val (.int x3), .val (.int x4), .val (.int x5), .val (.int (own_I mx)), .val (.int sm), .val (.int v1), .val (.int v2), .val (.int w1), .val (.int w2), .val (.int (own_I na)), .val (.int (own_I nb)), .unset, .unset, .unset] [(.int (3 : Int32)), (.int (own_I nb))])
    by_cases hc153 : (own_I nb) = (3 : Int32)
    ·
      refine Go.of (fun _ kz => XS.icmpNo X0.here hx rfl (hb hby at_153) rfl (teq hc153).2 kz) ?_
      show Go p e below _ T0 (mkF m 156 #[.val (.int x0), .val (.int x1), .val (.int x2), .val (.int x3), .val (.int x4), .val (.int x5), .val (.int (own_I mx)), .val (.int sm), .val (.int v1), .val (.int v2), .val (.int w1), .val (.int w2), .val (.int (own_I na)), .val (.int (own_I nb)), .unset, .unset, .unset] [])
      refine Go.of (fun _ kz => XS.iconst X0.here hx rfl (hb hby at_156) kz) ?_
      show Go p e below _ T0 (mkF m 157 #[.val (.int x0), .val (.int x1), .val (.int x2), .val (.int x3), .val (.int x4), .val (.int x5), .val (.int (own_I mx)), .val (.int sm), .val (.int v1), .val (.int v2), .val (.int w1), .val (.int w2), .val (.int (own_I na)), .val (.int (own_I nb)), .unset, .unset, .unset] [(.int (3 : Int32))])
      refine Go.newarr X0 hx hZ (hw _ (List.mem_of_getElem? (i := 4) rfl)) e0 3 (by decide) (by decide) (by decide) (by decide) (by decide) (hb hby at_157) fun T10 h10 b10 k10 g10 X10 e10 E10 V10 => ?_
      have ge_b10 : h0.size ≤ b10 := g10 ▸ (Nat.le_refl _)
      have sz10 : h0.size ≤ h10.size := Nat.le_trans (Nat.le_refl _) E10.1
      have V10 : Arv Z h10 b10 k10 .int (3 : Int32) [(.int (0 : Int32)), (.int (0 : Int32)), (.int (0 : Int32))] (.int (0 : Int32)) := V10
      show Go p e below _ T10 (mkF m 159 #[.val (.int x0), .val (.int x1), .val (.int x2), .val (.int x3), .val (.int x4), .val (.int x5), .val (.int (own_I mx)), .val (.int sm), .val (.int v1), .val (.int v2), .val (.int w1), .val (.int w2), .val (.int (own_I na)), .val (.int (own_I nb)), .unset, .unset, .unset] [(.ref b10)])
      refine Go.of (fun _ kz => XS.dup X10.here hx rfl (hb hby at_159) rfl rfl kz) ?_
      show Go p e below _ T10 (mkF m 160 #[.val (.int x0), .val (.int x1), .val (.int x2), .val (.int x3), .val (.int x4), .val (.int x5), .val (.int (own_I mx)), .val (.int sm), .val (.int v1), .val (.int v2), .val (.int w1), .val (.int w2), .val (.int (own_I na)), .val (.int (own_I nb)), .unset, .unset, .unset] [(.ref b10), (.ref b10)])
      refine Go.of (fun _ kz => XS.iconst X10.here hx rfl (hb hby at_160) kz) ?_
      show Go p e below _ T10 (mkF m 161 #[.val (.int x0), .val (.int x1), .val (.int x2), .val (.int x3), .val (.int x4), .val (.int x5), .val (.int (own_I mx)), .val (.int sm), .val (.int v1), .val (.int v2), .val (.int w1), .val (.int w2), .val (.int (own_I na)), .val (.int (own_I nb)), .unset, .unset, .unset] [(.int (0 : Int32)), (.ref b10), (.ref b10)])
      refine Go.of (fun _ kz => XS.iload X10.here hx rfl (hb hby at_161) rfl kz) ?_
      show Go p e below _ T10 (mkF m 163 #[.val (.int x0), .val (.int x1), .val (.int x2), .val (.int x3), .val (.int x4), .val (.int x5), .val (.int (own_I mx)), .val (.int sm), .val (.int v1), .val (.int v2), .val (.int w1), .val (.int w2), .val (.int (own_I na)), .val (.int (own_I nb)), .unset, .unset, .unset] [(.int v2), (.int (0 : Int32)), (.ref b10), (.ref b10)])
      refine Go.iastore X10 hx hZ e10 V10 ⟨by decide, by decide⟩ 0 rfl (Nat.le_of_ble_eq_true rfl) (hb hby at_163) fun T11 h11 X11 e11 W11 V11 => ?_
      have sz11 : h0.size ≤ h11.size := Nat.le_trans sz10 (Keep.of_wr W11).1
      have N11 := Fr.snoc X11 (Fr.nil _) ge_b10
      have V11 : Arv Z h11 b10 k10 .int (3 : Int32) [(.int v2), (.int (0 : Int32)), (.int (0 : Int32))] (.int (0 : Int32)) := V11
      show Go p e below _ T11 (mkF m 164 #[.val (.int x0), .val (.int x1), .val (.int x2), .val (.int x3), .val (.int x4), .val (.int x5), .val (.int (own_I mx)), .val (.int sm), .val (.int v1), .val (.int v2), .val (.int w1), .val (.int w2), .val (.int (own_I na)), .val (.int (own_I nb)), .unset, .unset, .unset] [(.ref b10)])
      refine Go.of (fun _ kz => XS.dup X11.here hx rfl (hb hby at_164) rfl rfl kz) ?_
      show Go p e below _ T11 (mkF m 165 #[.val (.int x0), .val (.int x1), .val (.int x2), .val (.int x3), .val (.int x4), .val (.int x5), .val (.int (own_I mx)), .val (.int sm), .val (.int v1), .val (.int v2), .val (.int w1), .val (.int w2), .val (.int (own_I na)), .val (.int (own_I nb)), .unset, .unset, .unset] [(.ref b10), (.ref b10)])
      refine Go.of (fun _ kz => XS.iconst X11.here hx rfl (hb hby at_165) kz) ?_
      show Go p e below _ T11 (mkF m 166 #[.val (.int x0), .val (.int x1), .val (.int x2), .val (.int x3), .val (.int x4), .val (.int x5), .val (.int (own_I mx)), .val (.int sm), .val (.int v1), .val (.int v2), .val (.int w1), .val (.int w2), .val (.int (own_I na)), .val (.int (own_I nb)), .unset, .unset, .unset] [(.int (1 : Int32)), (.ref b10), (.ref b10)])
      refine Go.of (fun _ kz => XS.iload X11.here hx rfl (hb hby at_166) rfl kz) ?_
      show Go p e below _ T11 (mkF m 168 #[.val (.int x0), .val (.int x1), .val (.int x2), .val (.int x3), .val (.int x4), .val (.int x5), .val (.int (own_I mx)), .val (.int sm), .val (.int v1), .val (.int v2), .val (.int w1), .val (.int w2), .val (.int (own_I na)), .val (.int (own_I nb)), .unset, .unset, .unset] [(.int w1), (.int (1 : Int32)), (.ref b10), (.ref b10)])
      refine Go.iastore X11 hx hZ e11 V11 ⟨by decide, by decide⟩ 1 rfl (Nat.le_of_ble_eq_true rfl) (hb hby at_168) fun T12 h12 X12 e12 W12 V12 => ?_
      have sz12 : h0.size ≤ h12.size := Nat.le_trans sz11 (Keep.of_wr W12).1
      have N12 := Fr.snoc X12 N11 ge_b10
      have V12 : Arv Z h12 b10 k10 .int (3 : Int32) [(.int v2), (.int w1), (.int (0 : Int32))] (.int (0 : Int32)) := V12
      show Go p e below _ T12 (mkF m 169 #[.val (.int x0), .val (.int x1), .val (.int x2), .val (.int x3), .val (.int x4), .val (.int x5), .val (.int (own_I mx)), .val (.int sm), .val (.int v1), .val (.int v2), .val (.int w1), .val (.int w2), .val (.int (own_I na)), .val (.int (own_I nb)), .unset, .unset, .unset] [(.ref b10)])
      refine Go.of (fun _ kz => XS.dup X12.here hx rfl (hb hby at_169) rfl rfl kz) ?_
      show Go p e below _ T12 (mkF m 170 #[.val (.int x0), .val (.int x1), .val (.int x2), .val (.int x3), .val (.int x4), .val (.int x5), .val (.int (own_I mx)), .val (.int sm), .val (.int v1), .val (.int v2), .val (.int w1), .val (.int w2), .val (.int (own_I na)), .val (.int (own_I nb)), .unset, .unset, .unset] [(.ref b10), (.ref b10)])
      refine Go.of (fun _ kz => XS.iconst X12.here hx rfl (hb hby at_170) kz) ?_
      show Go p e below _ T12 (mkF m 171 #[.val (.int x0), .val (.int x1), .val (.int x2), .val (.int x3), .val (.int x4), .val (.int x5), .val (.int (own_I mx)), .val (.int sm), .val (.int v1), .val (.int v2), .val (.int w1), .val (.int w2), .val (.int (own_I na)), .val (.int (own_I nb)), .unset, .unset, .unset] [(.int (2 : Int32)), (.ref b10), (.ref b10)])
      refine Go.of (fun _ kz => XS.iload X12.here hx rfl (hb hby at_171) rfl kz) ?_
      show Go p e below _ T12 (mkF m 173 #[.val (.int x0), .val (.int x1), .val (.int x2), .val (.int x3), .val (.int x4), .val (.int x5), .val (.int (own_I mx)), .val (.int sm), .val (.int v1), .val (.int v2), .val (.int w1), .val (.int w2), .val (.int (own_I na)), .val (.int (own_I nb)), .unset, .unset, .unset] [(.int v1), (.int (2 : Int32)), (.ref b10), (.ref b10)])
      refine Go.iastore X12 hx hZ e12 V12 ⟨by decide, by decide⟩ 2 rfl (Nat.le_of_ble_eq_true rfl) (hb hby at_173) fun T13 h13 X13 e13 W13 V13 => ?_
      have sz13 : h0.size ≤ h13.size := Nat.le_trans sz12 (Keep.of_wr W13).1
      have N13 := Fr.snoc X13 N12 ge_b10
      have V13 : Arv Z h13 b10 k10 .int (3 : Int32) [(.int v2), (.int w1), (.int v1)] (.int (0 : Int32)) := V13
      show Go p e below _ T13 (mkF m 174 #[.val (.int x0), .val (.int x1), .val (.int x2), .val (.int x3), .val (.int x4), .val (.int x5), .val (.int (own_I mx)), .val (.int sm), .val (.int v1), .val (.int v2), .val (.int w1), .val (.int w2), .val (.int (own_I na)), .val (.int (own_I nb)), .unset, .unset, .unset] [(.ref b10)])
      refine Go.of (fun _ kz => XS.astore X13.here hx rfl (hb hby at_174) rfl rfl (l' := #[.val (.int x0), .val (.int x1), .val (.int x2), .val (.int x3), .val (.int x4), .val (.int x5), .val (.int (own_I mx)), .val (.int sm), .val (.int v1), .val (.int v2), .val (.int w1), .val (.int w2), .val (.int (own_I na)), .val (.int (own_I nb)), .val (.ref b10), .unset, .unset]) rfl kz) ?_
      show Go p e below _ T13 (mkF m 176 #[.val (.int x0), .val (.int x1), .val (.int x2), .val (.int x3), .val (.int x4), .val (.int x5), .val (.int (own_I mx)), .val (.int sm), .val (.int v1), .val (.int v2), .val (.int w1), .val (.int w2), .val (.int (own_I na)), .val (.int (own_I nb)), .val (.ref b10), .unset, .unset] [])
      refine Go.of (fun _ kz => XS.iconst X13.here hx rfl (hb hby at_176) kz) ?_
      show Go p e below _ T13 (mkF m 177 #[.val (.int x0), .val (.int x1), .val (.int x2), .val (.int x3), .val (.int x4), .val (.int x5), .val (.int (own_I mx)), .val (.int sm), .val (.int v1), .val (.int v2), .val (.int w1), .val (.int w2), .val (.int (own_I na)), .val (.int (own_I nb)), .val (.ref b10), .unset, .unset] [(.int (2 : Int32))])
      refine Go.newarr X13 hx hZ (hw _ (List.mem_of_getElem? (i := 4) rfl)) e13 2 (by decide) (by decide) (by decide) (by decide) (by decide) (hb hby at_177) fun T14 h14 b14 k14 g14 X14 e14 E14 V14 => ?_
      have lt_b10_b14 : b10 < b14 := Nat.lt_of_lt_of_le V13.lt (Nat.le_of_eq g14.symm)
      have ge_b14 : h0.size ≤ b14 := g14 ▸ sz13
      have sz14 : h0.size ≤ h14.size := Nat.le_trans sz13 E14.1
      have V14 : Arv Z h14 b14 k14 .int (2 : Int32) [(.int (0 : Int32)), (.int (0 : Int32))] (.int (0 : Int32)) := V14
      show Go p e below _ T14 (mkF m 179 #[.val (.int x0), .val (.int x1), .val (.int x2), .val (.int x3), .val (.int x4), .val (.int x5), .val (.int (own_I mx)), .val (.int sm), .val (.int v1), .val (.int v2), .val (.int w1), .val (.int w2), .val (.int (own_I na)), .val (.int (own_I nb)), .val (.ref b10), .unset, .unset] [(.ref b14)])
      refine Go.of (fun _ kz => XS.dup X14.here hx rfl (hb hby at_179) rfl rfl kz) ?_
      show Go p e below _ T14 (mkF m 180 #[.val (.int x0), .val (.int x1), .val (.int x2), .val (.int x3), .val (.int x4), .val (.int x5), .val (.int (own_I mx)), .val (.int sm), .val (.int v1), .val (.int v2), .val (.int w1), .val (.int w2), .val (.int (own_I na)), .val (.int (own_I nb)), .val (.ref b10), .unset, .unset] [(.ref b14), (.ref b14)])
      refine Go.of (fun _ kz => XS.iconst X14.here hx rfl (hb hby at_180) kz) ?_
      show Go p e below _ T14 (mkF m 181 #[.val (.int x0), .val (.int x1), .val (.int x2), .val (.int x3), .val (.int x4), .val (.int x5), .val (.int (own_I mx)), .val (.int sm), .val (.int v1), .val (.int v2), .val (.int w1), .val (.int w2), .val (.int (own_I na)), .val (.int (own_I nb)), .val (.ref b10), .unset, .unset] [(.int (0 : Int32)), (.ref b14), (.ref b14)])
      refine Go.of (fun _ kz => XS.iload X14.here hx rfl (hb hby at_181) rfl kz) ?_
      show Go p e below _ T14 (mkF m 183 #[.val (.int x0), .val (.int x1), .val (.int x2), .val (.int x3), .val (.int x4), .val (.int x5), .val (.int (own_I mx)), .val (.int sm), .val (.int v1), .val (.int v2), .val (.int w1), .val (.int w2), .val (.int (own_I na)), .val (.int (own_I nb)), .val (.ref b10), .unset, .unset] [(.int v1), (.int (0 : Int32)), (.ref b14), (.ref b14)])
      refine Go.iastore X14 hx hZ e14 V14 ⟨by decide, by decide⟩ 0 rfl (Nat.le_of_ble_eq_true rfl) (hb hby at_183) fun T15 h15 X15 e15 W15 V15 => ?_
      have sz15 : h0.size ≤ h15.size := Nat.le_trans sz14 (Keep.of_wr W15).1
      have N15 := Fr.snoc X15 N13 ge_b14
      have V15 : Arv Z h15 b14 k14 .int (2 : Int32) [(.int v1), (.int (0 : Int32))] (.int (0 : Int32)) := V15
      show Go p e below _ T15 (mkF m 184 #[.val (.int x0), .val (.int x1), .val (.int x2), .val (.int x3), .val (.int x4), .val (.int x5), .val (.int (own_I mx)), .val (.int sm), .val (.int v1), .val (.int v2), .val (.int w1), .val (.int w2), .val (.int (own_I na)), .val (.int (own_I nb)), .val (.ref b10), .unset, .unset] [(.ref b14)])
      refine Go.of (fun _ kz => XS.dup X15.here hx rfl (hb hby at_184) rfl rfl kz) ?_
      show Go p e below _ T15 (mkF m 185 #[.val (.int x0), .val (.int x1), .val (.int x2), .val (.int x3), .val (.int x4), .val (.int x5), .val (.int (own_I mx)), .val (.int sm), .val (.int v1), .val (.int v2), .val (.int w1), .val (.int w2), .val (.int (own_I na)), .val (.int (own_I nb)), .val (.ref b10), .unset, .unset] [(.ref b14), (.ref b14)])
      refine Go.of (fun _ kz => XS.iconst X15.here hx rfl (hb hby at_185) kz) ?_
      show Go p e below _ T15 (mkF m 186 #[.val (.int x0), .val (.int x1), .val (.int x2), .val (.int x3), .val (.int x4), .val (.int x5), .val (.int (own_I mx)), .val (.int sm), .val (.int v1), .val (.int v2), .val (.int w1), .val (.int w2), .val (.int (own_I na)), .val (.int (own_I nb)), .val (.ref b10), .unset, .unset] [(.int (1 : Int32)), (.ref b14), (.ref b14)])
      refine Go.of (fun _ kz => XS.iload X15.here hx rfl (hb hby at_186) rfl kz) ?_
      show Go p e below _ T15 (mkF m 188 #[.val (.int x0), .val (.int x1), .val (.int x2), .val (.int x3), .val (.int x4), .val (.int x5), .val (.int (own_I mx)), .val (.int sm), .val (.int v1), .val (.int v2), .val (.int w1), .val (.int w2), .val (.int (own_I na)), .val (.int (own_I nb)), .val (.ref b10), .unset, .unset] [(.int v2), (.int (1 : Int32)), (.ref b14), (.ref b14)])
      refine Go.iastore X15 hx hZ e15 V15 ⟨by decide, by decide⟩ 1 rfl (Nat.le_of_ble_eq_true rfl) (hb hby at_188) fun T16 h16 X16 e16 W16 V16 => ?_
      have sz16 : h0.size ≤ h16.size := Nat.le_trans sz15 (Keep.of_wr W16).1
      have N16 := Fr.snoc X16 N15 ge_b14
      have V16 : Arv Z h16 b14 k14 .int (2 : Int32) [(.int v1), (.int v2)] (.int (0 : Int32)) := V16
      show Go p e below _ T16 (mkF m 189 #[.val (.int x0), .val (.int x1), .val (.int x2), .val (.int x3), .val (.int x4), .val (.int x5), .val (.int (own_I mx)), .val (.int sm), .val (.int v1), .val (.int v2), .val (.int w1), .val (.int w2), .val (.int (own_I na)), .val (.int (own_I nb)), .val (.ref b10), .unset, .unset] [(.ref b14)])
      refine Go.of (fun _ kz => XS.astore X16.here hx rfl (hb hby at_189) rfl rfl (l' := #[.val (.int x0), .val (.int x1), .val (.int x2), .val (.int x3), .val (.int x4), .val (.int x5), .val (.int (own_I mx)), .val (.int sm), .val (.int v1), .val (.int v2), .val (.int w1), .val (.int w2), .val (.int (own_I na)), .val (.int (own_I nb)), .val (.ref b10), .val (.ref b14), .unset]) rfl kz) ?_
      show Go p e below _ T16 (mkF m 191 #[.val (.int x0), .val (.int x1), .val (.int x2), .val (.int x3), .val (.int x4), .val (.int x5), .val (.int (own_I mx)), .val (.int sm), .val (.int v1), .val (.int v2), .val (.int w1), .val (.int w2), .val (.int (own_I na)), .val (.int (own_I nb)), .val (.ref b10), .val (.ref b14), .unset] [])
      refine Go.of (fun _ kz => XS.iload X16.here hx rfl (hb hby at_191) rfl kz) ?_
      show Go p e below _ T16 (mkF m 193 #[.val (.int x0), .val (.int x1), .val (.int x2), .val (.int x3), .val (.int x4), .val (.int x5), .val (.int (own_I mx)), .val (.int sm), .val (.int v1), .val (.int v2), .val (.int w1), .val (.int w2), .val (.int (own_I na)), .val (.int (own_I nb)), .val (.ref b10), .val (.ref b14), .unset] [(.int v1)])
      refine Go.of (fun _ kz => XS.iload X16.here hx rfl (hb hby at_193) rfl kz) ?_
      show Go p e below _ T16 (mkF m 195 #[.val (.int x0), .val (.int x1), .val (.int x2), .val (.int x3), .val (.int x4), .val (.int x5), .val (.int (own_I mx)), .val (.int sm), .val (.int v1), .val (.int v2), .val (.int w1), .val (.int w2), .val (.int (own_I na)), .val (.int (own_I nb)), .val (.ref b10), .val (.ref b14), .unset] [(.int v2), (.int v1)])
      suffices km195 : ∀ (dd : Int32), dd = (if v1 = v2 then (1 : Int32) else (2 : Int32)) → Go p e below (GoEnd s room_1.cells room_1.slots (fun v _ L => v = some (.int 1) ∧ Fr h0.size L)) T16 (mkF m 203 #[.val (.int x0), .val (.int x1), .val (.int x2), .val (.int x3), .val (.int x4), .val (.int x5), .val (.int (own_I mx)), .val (.int sm), .val (.int v1), .val (.int v2), .val (.int w1), .val (.int w2), .val (.int (own_I na)), .val (.int (own_I nb)), .val (.ref b10), .val (.ref b14), .unset] [(.int dd)]) by
        by_cases hc195 : v1 = v2
        ·
          refine Go.of (fun _ kz => XS.icmpNo X16.here hx rfl (hb hby at_195) rfl (teq hc195).2 kz) ?_
          show Go p e below _ T16 (mkF m 198 #[.val (.int x0), .val (.int x1), .val (.int x2), .val (.int x3), .val (.int x4), .val (.int x5), .val (.int (own_I mx)), .val (.int sm), .val (.int v1), .val (.int v2), .val (.int w1), .val (.int w2), .val (.int (own_I na)), .val (.int (own_I nb)), .val (.ref b10), .val (.ref b14), .unset] [])
          refine Go.of (fun _ kz => XS.iconst X16.here hx rfl (hb hby at_198) kz) ?_
          show Go p e below _ T16 (mkF m 199 #[.val (.int x0), .val (.int x1), .val (.int x2), .val (.int x3), .val (.int x4), .val (.int x5), .val (.int (own_I mx)), .val (.int sm), .val (.int v1), .val (.int v2), .val (.int w1), .val (.int w2), .val (.int (own_I na)), .val (.int (own_I nb)), .val (.ref b10), .val (.ref b14), .unset] [(.int (1 : Int32))])
          refine Go.of (fun _ kz => XS.goto X16.here hx rfl (pc0 := 199) (pc' := 203) rfl (hb hby at_199) (by decide) (by decide) kz) ?_
          show Go p e below _ T16 (mkF m 203 #[.val (.int x0), .val (.int x1), .val (.int x2), .val (.int x3), .val (.int x4), .val (.int x5), .val (.int (own_I mx)), .val (.int sm), .val (.int v1), .val (.int v2), .val (.int w1), .val (.int w2), .val (.int (own_I na)), .val (.int (own_I nb)), .val (.ref b10), .val (.ref b14), .unset] [(.int (1 : Int32))])
          exact km195 _ (if_pos hc195).symm
        ·
          refine Go.of (fun _ kz => XS.icmpYes X16.here hx rfl (pc0 := 195) (pc' := 202) rfl (hb hby at_195) rfl (feq hc195).2 (by decide) (by decide) kz) ?_
          show Go p e below _ T16 (mkF m 202 #[.val (.int x0), .val (.int x1), .val (.int x2), .val (.int x3), .val (.int x4), .val (.int x5), .val (.int (own_I mx)), .val (.int sm), .val (.int v1), .val (.int v2), .val (.int w1), .val (.int w2), .val (.int (own_I na)), .val (.int (own_I nb)), .val (.ref b10), .val (.ref b14), .unset] [])
          refine Go.of (fun _ kz => XS.iconst X16.here hx rfl (hb hby at_202) kz) ?_
          show Go p e below _ T16 (mkF m 203 #[.val (.int x0), .val (.int x1), .val (.int x2), .val (.int x3), .val (.int x4), .val (.int x5), .val (.int (own_I mx)), .val (.int sm), .val (.int v1), .val (.int v2), .val (.int w1), .val (.int w2), .val (.int (own_I na)), .val (.int (own_I nb)), .val (.ref b10), .val (.ref b14), .unset] [(.int (2 : Int32))])
          exact km195 _ (if_neg hc195).symm
      intro dd hu_dd
      show Go p e below _ T16 (mkF m 203 #[.val (.int x0), .val (.int x1), .val (.int x2), .val (.int x3), .val (.int x4), .val (.int x5), .val (.int (own_I mx)), .val (.int sm), .val (.int v1), .val (.int v2), .val (.int w1), .val (.int w2), .val (.int (own_I na)), .val (.int (own_I nb)), .val (.ref b10), .val (.ref b14), .unset] [(.int dd)])
      refine Go.of (fun _ kz => XS.istore X16.here hx rfl (hb hby at_203) rfl (l' := #[.val (.int x0), .val (.int x1), .val (.int x2), .val (.int x3), .val (.int x4), .val (.int x5), .val (.int (own_I mx)), .val (.int sm), .val (.int v1), .val (.int v2), .val (.int w1), .val (.int w2), .val (.int (own_I na)), .val (.int (own_I nb)), .val (.ref b10), .val (.ref b14), .val (.int dd)]) rfl kz) ?_
      show Go p e below _ T16 (mkF m 205 #[.val (.int x0), .val (.int x1), .val (.int x2), .val (.int x3), .val (.int x4), .val (.int x5), .val (.int (own_I mx)), .val (.int sm), .val (.int v1), .val (.int v2), .val (.int w1), .val (.int w2), .val (.int (own_I na)), .val (.int (own_I nb)), .val (.ref b10), .val (.ref b14), .val (.int dd)] [])
      refine Go.of (fun _ kz => XS.goto X16.here hx rfl (pc0 := 205) (pc' := 247) rfl (hb hby at_205) (by decide) (by decide) kz) ?_
      show Go p e below _ T16 (mkF m 247 #[.val (.int x0), .val (.int x1), .val (.int x2), .val (.int x3), .val (.int x4), .val (.int x5), .val (.int (own_I mx)), .val (.int sm), .val (.int v1), .val (.int v2), .val (.int w1), .val (.int w2), .val (.int (own_I na)), .val (.int (own_I nb)), .val (.ref b10), .val (.ref b14), .val (.int dd)] [])
      refine Go.of (fun _ kz => XS.aload X16.here hx rfl (hb hby at_247) rfl rfl kz) ?_
      show Go p e below _ T16 (mkF m 249 #[.val (.int x0), .val (.int x1), .val (.int x2), .val (.int x3), .val (.int x4), .val (.int x5), .val (.int (own_I mx)), .val (.int sm), .val (.int v1), .val (.int v2), .val (.int w1), .val (.int w2), .val (.int (own_I na)), .val (.int (own_I nb)), .val (.ref b10), .val (.ref b14), .val (.int dd)] [(.ref b10)])
      refine Go.of (fun _ kz => XS.aload X16.here hx rfl (hb hby at_249) rfl rfl kz) ?_
      show Go p e below _ T16 (mkF m 251 #[.val (.int x0), .val (.int x1), .val (.int x2), .val (.int x3), .val (.int x4), .val (.int x5), .val (.int (own_I mx)), .val (.int sm), .val (.int v1), .val (.int v2), .val (.int w1), .val (.int w2), .val (.int (own_I na)), .val (.int (own_I nb)), .val (.ref b10), .val (.ref b14), .val (.int dd)] [(.ref b14), (.ref b10)])
      refine Go.of (fun _ kz => XS.iload X16.here hx rfl (hb hby at_251) rfl kz) ?_
      show Go p e below _ T16 (mkF m 253 #[.val (.int x0), .val (.int x1), .val (.int x2), .val (.int x3), .val (.int x4), .val (.int x5), .val (.int (own_I mx)), .val (.int sm), .val (.int v1), .val (.int v2), .val (.int w1), .val (.int w2), .val (.int (own_I na)), .val (.int (own_I nb)), .val (.ref b10), .val (.ref b14), .val (.int dd)] [(.int (own_I mx)), (.ref b14), (.ref b10)])
      refine Go.callS (W := 0) (y := (⟨"com/example/keen_guess/keenguess/edit/EditDistance", "distance", "([I[II)I"⟩ : MethodName)) (argsL := [(.ref b10), (.ref b14), (.int (own_I mx))]) (rest := []) X16 hx hZ hown (hw _ (List.mem_of_getElem? (i := 8) rfl)) (hw _ (List.mem_of_getElem? (i := 9) rfl)) (hw _ (List.mem_of_getElem? (i := 10) rfl)) (hw _ (List.mem_of_getElem? (i := 11) rfl)) (by decide) (own_rmD l Z a0 hw b10 b14 k10 k14 3 2 (fun i => [v2, w1, v1].getD i 0) (fun i => [v1, v2].getD i 0) mx h16 (by decide) (by decide) lmx (((V13.ext E14).other W15 (Nat.ne_of_lt lt_b10_b14)).other W16 (Nat.ne_of_lt lt_b10_b14)) V16) e16 (by rw [hml]; rfl) (lenOf own_dsc4 rfl) (hb hby at_253) rfl (Nat.le_of_eq rfl) (by decide) (by decide) (by decide) (by decide) fun _ T17 L17 X17 q17 => ?_
      obtain ⟨rfl, N17q⟩ := q17
      have N17 := Fr.app N16 (fun y hy => Nat.le_trans sz16 (N17q y hy))
      show Go p e below _ T17 (mkF m 256 #[.val (.int x0), .val (.int x1), .val (.int x2), .val (.int x3), .val (.int x4), .val (.int x5), .val (.int (own_I mx)), .val (.int sm), .val (.int v1), .val (.int v2), .val (.int w1), .val (.int w2), .val (.int (own_I na)), .val (.int (own_I nb)), .val (.ref b10), .val (.ref b14), .val (.int dd)] [(.int (own_dist (own_E 3 2 (fun i => [v2, w1, v1].getD i 0) (fun i => [v1, v2].getD i 0)) 3 2 mx))])
      refine Go.of (fun _ kz => XS.iload X17.here hx rfl (hb hby at_256) rfl kz) ?_
      show Go p e below _ T17 (mkF m 258 #[.val (.int x0), .val (.int x1), .val (.int x2), .val (.int x3), .val (.int x4), .val (.int x5), .val (.int (own_I mx)), .val (.int sm), .val (.int v1), .val (.int v2), .val (.int w1), .val (.int w2), .val (.int (own_I na)), .val (.int (own_I nb)), .val (.ref b10), .val (.ref b14), .val (.int dd)] [(.int dd), (.int (own_dist (own_E 3 2 (fun i => [v2, w1, v1].getD i 0) (fun i => [v1, v2].getD i 0)) 3 2 mx))])
      refine Go.of (fun _ kz => XS.iload X17.here hx rfl (hb hby at_258) rfl kz) ?_
      show Go p e below _ T17 (mkF m 260 #[.val (.int x0), .val (.int x1), .val (.int x2), .val (.int x3), .val (.int x4), .val (.int x5), .val (.int (own_I mx)), .val (.int sm), .val (.int v1), .val (.int v2), .val (.int w1), .val (.int w2), .val (.int (own_I na)), .val (.int (own_I nb)), .val (.ref b10), .val (.ref b14), .val (.int dd)] [(.int (own_I mx)), (.int dd), (.int (own_dist (own_E 3 2 (fun i => [v2, w1, v1].getD i 0) (fun i => [v1, v2].getD i 0)) 3 2 mx))])
      refine Go.of (fun _ kz => XS.iconst X17.here hx rfl (hb hby at_260) kz) ?_
      show Go p e below _ T17 (mkF m 261 #[.val (.int x0), .val (.int x1), .val (.int x2), .val (.int x3), .val (.int x4), .val (.int x5), .val (.int (own_I mx)), .val (.int sm), .val (.int v1), .val (.int v2), .val (.int w1), .val (.int w2), .val (.int (own_I na)), .val (.int (own_I nb)), .val (.ref b10), .val (.ref b14), .val (.int dd)] [(.int (1 : Int32)), (.int (own_I mx)), (.int dd), (.int (own_dist (own_E 3 2 (fun i => [v2, w1, v1].getD i 0) (fun i => [v1, v2].getD i 0)) 3 2 mx))])
      refine Go.of (fun _ kz => XS.iadd X17.here hx rfl (hb hby at_261) rfl kz) ?_
      show Go p e below _ T17 (mkF m 262 #[.val (.int x0), .val (.int x1), .val (.int x2), .val (.int x3), .val (.int x4), .val (.int x5), .val (.int (own_I mx)), .val (.int sm), .val (.int v1), .val (.int v2), .val (.int w1), .val (.int w2), .val (.int (own_I na)), .val (.int (own_I nb)), .val (.ref b10), .val (.ref b14), .val (.int dd)] [(.int ((own_I mx) + (1 : Int32))), (.int dd), (.int (own_dist (own_E 3 2 (fun i => [v2, w1, v1].getD i 0) (fun i => [v1, v2].getD i 0)) 3 2 mx))])
      refine Go.callSP (W := 1) (y := (⟨"java/lang/Math", "min", "(II)I"⟩ : MethodName)) (argsL := [(.int dd), (.int ((own_I mx) + (1 : Int32)))]) (rest := [(.int (own_dist (own_E 3 2 (fun i => [v2, w1, v1].getD i 0) (fun i => [v1, v2].getD i 0)) 3 2 mx))]) (r := some (.int (own_min dd ((own_I mx) + (1 : Int32))))) X17 hx hZ hown (hw _ (List.mem_of_getElem? (i := 21) rfl)) (hw _ (List.mem_of_getElem? (i := 19) rfl)) (hw _ (List.mem_of_getElem? (i := 14) rfl)) (hw _ (List.mem_of_getElem? (i := 20) rfl)) (by decide) (own_rmMin l Z a0 hw dd ((own_I mx) + (1 : Int32)) T17.heap) rfl (by rw [hml]; rfl) (lenOf own_dsc2 rfl) (hb hby at_262) rfl (Nat.le_of_eq rfl) (by decide) (by decide) (by decide) (by decide) fun T18 X18 e18 => ?_
      show Go p e below _ T18 (mkF m 265 #[.val (.int x0), .val (.int x1), .val (.int x2), .val (.int x3), .val (.int x4), .val (.int x5), .val (.int (own_I mx)), .val (.int sm), .val (.int v1), .val (.int v2), .val (.int w1), .val (.int w2), .val (.int (own_I na)), .val (.int (own_I nb)), .val (.ref b10), .val (.ref b14), .val (.int dd)] [(.int (own_min dd ((own_I mx) + (1 : Int32)))), (.int (own_dist (own_E 3 2 (fun i => [v2, w1, v1].getD i 0) (fun i => [v1, v2].getD i 0)) 3 2 mx))])
      refine Go.of (fun _ kz => XS.icmpNo X18.here hx rfl (hb hby at_265) rfl (teq (by rw [hu_dd]; exact own_fin32 lmx v1 v2 w1 : (own_dist (own_E 3 2 (fun i => [v2, w1, v1].getD i 0) (fun i => [v1, v2].getD i 0)) 3 2 mx) = (own_min dd ((own_I mx) + (1 : Int32))))).2 kz) ?_
      show Go p e below _ T18 (mkF m 268 #[.val (.int x0), .val (.int x1), .val (.int x2), .val (.int x3), .val (.int x4), .val (.int x5), .val (.int (own_I mx)), .val (.int sm), .val (.int v1), .val (.int v2), .val (.int w1), .val (.int w2), .val (.int (own_I na)), .val (.int (own_I nb)), .val (.ref b10), .val (.ref b14), .val (.int dd)] [])
      refine Go.of (fun _ kz => XS.iconst X18.here hx rfl (hb hby at_268) kz) ?_
      show Go p e below _ T18 (mkF m 269 #[.val (.int x0), .val (.int x1), .val (.int x2), .val (.int x3), .val (.int x4), .val (.int x5), .val (.int (own_I mx)), .val (.int sm), .val (.int v1), .val (.int v2), .val (.int w1), .val (.int w2), .val (.int (own_I na)), .val (.int (own_I nb)), .val (.ref b10), .val (.ref b14), .val (.int dd)] [(.int (1 : Int32))])
      refine Go.of (fun _ kz => XS.goto X18.here hx rfl (pc0 := 269) (pc' := 273) rfl (hb hby at_269) (by decide) (by decide) kz) ?_
      show Go p e below _ T18 (mkF m 273 #[.val (.int x0), .val (.int x1), .val (.int x2), .val (.int x3), .val (.int x4), .val (.int x5), .val (.int (own_I mx)), .val (.int sm), .val (.int v1), .val (.int v2), .val (.int w1), .val (.int w2), .val (.int (own_I na)), .val (.int (own_I nb)), .val (.ref b10), .val (.ref b14), .val (.int dd)] [(.int (1 : Int32))])
      exact Go.retN X18 hx hlk (t := .boolean) hret (by simp) (hb hby at_273) (by decide) (by decide) ⟨rfl, N17⟩
    ·
      refine Go.of (fun _ kz => XS.icmpYes X0.here hx rfl (pc0 := 153) (pc' := 208) rfl (hb hby at_153) rfl (feq hc153).2 (by decide) (by decide) kz) ?_
      show Go p e below _ T0 (mkF m 208 #[.val (.int x0), .val (.int x1), .val (.int x2), .val (.int x3), .val (.int x4), .val (.int x5), .val (.int (own_I mx)), .val (.int sm), .val (.int v1), .val (.int v2), .val (.int w1), .val (.int w2), .val (.int (own_I na)), .val (.int (own_I nb)), .unset, .unset, .unset] [])
      refine Go.of (fun _ kz => XS.iload X0.here hx rfl (hb hby at_208) rfl kz) ?_
      show Go p e below _ T0 (mkF m 210 #[.val (.int x0), .val (.int x1), .val (.int x2), .val (.int x3), .val (.int x4), .val (.int x5), .val (.int (own_I mx)), .val (.int sm), .val (.int v1), .val (.int v2), .val (.int w1), .val (.int w2), .val (.int (own_I na)), .val (.int (own_I nb)), .unset, .unset, .unset] [(.int (own_I na))])
      refine Go.of (fun _ kz => XS.iload X0.here hx rfl (hb hby at_210) rfl kz) ?_
      show Go p e below _ T0 (mkF m 212 #[.val (.int x0), .val (.int x1), .val (.int x2), .val (.int x3), .val (.int x4), .val (.int x5), .val (.int (own_I mx)), .val (.int sm), .val (.int v1), .val (.int v2), .val (.int w1), .val (.int w2), .val (.int (own_I na)), .val (.int (own_I nb)), .unset, .unset, .unset] [(.int v1), (.int (own_I na))])
      refine Go.of (fun _ kz => XS.iload X0.here hx rfl (hb hby at_212) rfl kz) ?_
      show Go p e below _ T0 (mkF m 214 #[.val (.int x0), .val (.int x1), .val (.int x2), .val (.int x3), .val (.int x4), .val (.int x5), .val (.int (own_I mx)), .val (.int sm), .val (.int v1), .val (.int v2), .val (.int w1), .val (.int w2), .val (.int (own_I na)), .val (.int (own_I nb)), .unset, .unset, .unset] [(.int v2), (.int v1), (.int (own_I na))])
      refine Go.callS (W := 0) (y := (⟨"com/example/keen_guess/keenguess/edit/EditDistanceDistancePinLaw", "make", "(III)[I"⟩ : MethodName)) (argsL := [(.int (own_I na)), (.int v1), (.int v2)]) (rest := []) X0 hx hZ hown (hw _ (List.mem_of_getElem? (i := 0) rfl)) (hw _ (List.mem_of_getElem? (i := 1) rfl)) (hw _ (List.mem_of_getElem? (i := 2) rfl)) (hw _ (List.mem_of_getElem? (i := 3) rfl)) (by decide) (own_rmM l Z a0 hw na v1 v2 h0 (own_le2 lna hc95)) e0 (by rw [hml]; rfl) (lenOf own_dsc5 rfl) (hb hby at_214) rfl (Nat.le_of_eq rfl) (by decide) (by decide) (by decide) (by decide) fun _ T19 L19 X19 q19 => ?_
      obtain ⟨b19, k19, rfl, N19q, K19, g19, V19⟩ := q19
      have N19 := Fr.app (Fr.nil _) (fun y hy => Nat.le_trans (Nat.le_refl _) (N19q y hy))
      have sz19 : h0.size ≤ T19.heap.size := Nat.le_trans (Nat.le_refl _) K19.1
      show Go p e below _ T19 (mkF m 217 #[.val (.int x0), .val (.int x1), .val (.int x2), .val (.int x3), .val (.int x4), .val (.int x5), .val (.int (own_I mx)), .val (.int sm), .val (.int v1), .val (.int v2), .val (.int w1), .val (.int w2), .val (.int (own_I na)), .val (.int (own_I nb)), .unset, .unset, .unset] [(.ref b19)])
      refine Go.of (fun _ kz => XS.astore X19.here hx rfl (hb hby at_217) rfl rfl (l' := #[.val (.int x0), .val (.int x1), .val (.int x2), .val (.int x3), .val (.int x4), .val (.int x5), .val (.int (own_I mx)), .val (.int sm), .val (.int v1), .val (.int v2), .val (.int w1), .val (.int w2), .val (.int (own_I na)), .val (.int (own_I nb)), .val (.ref b19), .unset, .unset]) rfl kz) ?_
      show Go p e below _ T19 (mkF m 219 #[.val (.int x0), .val (.int x1), .val (.int x2), .val (.int x3), .val (.int x4), .val (.int x5), .val (.int (own_I mx)), .val (.int sm), .val (.int v1), .val (.int v2), .val (.int w1), .val (.int w2), .val (.int (own_I na)), .val (.int (own_I nb)), .val (.ref b19), .unset, .unset] [])
      refine Go.of (fun _ kz => XS.iload X19.here hx rfl (hb hby at_219) rfl kz) ?_
      show Go p e below _ T19 (mkF m 221 #[.val (.int x0), .val (.int x1), .val (.int x2), .val (.int x3), .val (.int x4), .val (.int x5), .val (.int (own_I mx)), .val (.int sm), .val (.int v1), .val (.int v2), .val (.int w1), .val (.int w2), .val (.int (own_I na)), .val (.int (own_I nb)), .val (.ref b19), .unset, .unset] [(.int (own_I nb))])
      refine Go.of (fun _ kz => XS.iload X19.here hx rfl (hb hby at_221) rfl kz) ?_
      show Go p e below _ T19 (mkF m 223 #[.val (.int x0), .val (.int x1), .val (.int x2), .val (.int x3), .val (.int x4), .val (.int x5), .val (.int (own_I mx)), .val (.int sm), .val (.int v1), .val (.int v2), .val (.int w1), .val (.int w2), .val (.int (own_I na)), .val (.int (own_I nb)), .val (.ref b19), .unset, .unset] [(.int w1), (.int (own_I nb))])
      refine Go.of (fun _ kz => XS.iload X19.here hx rfl (hb hby at_223) rfl kz) ?_
      show Go p e below _ T19 (mkF m 225 #[.val (.int x0), .val (.int x1), .val (.int x2), .val (.int x3), .val (.int x4), .val (.int x5), .val (.int (own_I mx)), .val (.int sm), .val (.int v1), .val (.int v2), .val (.int w1), .val (.int w2), .val (.int (own_I na)), .val (.int (own_I nb)), .val (.ref b19), .unset, .unset] [(.int w2), (.int w1), (.int (own_I nb))])
      refine Go.callS (W := 0) (y := (⟨"com/example/keen_guess/keenguess/edit/EditDistanceDistancePinLaw", "make", "(III)[I"⟩ : MethodName)) (argsL := [(.int (own_I nb)), (.int w1), (.int w2)]) (rest := []) X19 hx hZ hown (hw _ (List.mem_of_getElem? (i := 0) rfl)) (hw _ (List.mem_of_getElem? (i := 1) rfl)) (hw _ (List.mem_of_getElem? (i := 2) rfl)) (hw _ (List.mem_of_getElem? (i := 3) rfl)) (by decide) (own_rmM l Z a0 hw nb w1 w2 T19.heap (own_le2 lnb hc153)) rfl (by rw [hml]; rfl) (lenOf own_dsc5 rfl) (hb hby at_225) rfl (Nat.le_of_eq rfl) (by decide) (by decide) (by decide) (by decide) fun _ T20 L20 X20 q20 => ?_
      obtain ⟨b20, k20, rfl, N20q, K20, g20, V20⟩ := q20
      have N20 := Fr.app N19 (fun y hy => Nat.le_trans sz19 (N20q y hy))
      have sz20 : h0.size ≤ T20.heap.size := Nat.le_trans sz19 K20.1
      show Go p e below _ T20 (mkF m 228 #[.val (.int x0), .val (.int x1), .val (.int x2), .val (.int x3), .val (.int x4), .val (.int x5), .val (.int (own_I mx)), .val (.int sm), .val (.int v1), .val (.int v2), .val (.int w1), .val (.int w2), .val (.int (own_I na)), .val (.int (own_I nb)), .val (.ref b19), .unset, .unset] [(.ref b20)])
      refine Go.of (fun _ kz => XS.astore X20.here hx rfl (hb hby at_228) rfl rfl (l' := #[.val (.int x0), .val (.int x1), .val (.int x2), .val (.int x3), .val (.int x4), .val (.int x5), .val (.int (own_I mx)), .val (.int sm), .val (.int v1), .val (.int v2), .val (.int w1), .val (.int w2), .val (.int (own_I na)), .val (.int (own_I nb)), .val (.ref b19), .val (.ref b20), .unset]) rfl kz) ?_
      show Go p e below _ T20 (mkF m 230 #[.val (.int x0), .val (.int x1), .val (.int x2), .val (.int x3), .val (.int x4), .val (.int x5), .val (.int (own_I mx)), .val (.int sm), .val (.int v1), .val (.int v2), .val (.int w1), .val (.int w2), .val (.int (own_I na)), .val (.int (own_I nb)), .val (.ref b19), .val (.ref b20), .unset] [])
      refine Go.of (fun _ kz => XS.iload X20.here hx rfl (hb hby at_230) rfl kz) ?_
      show Go p e below _ T20 (mkF m 232 #[.val (.int x0), .val (.int x1), .val (.int x2), .val (.int x3), .val (.int x4), .val (.int x5), .val (.int (own_I mx)), .val (.int sm), .val (.int v1), .val (.int v2), .val (.int w1), .val (.int w2), .val (.int (own_I na)), .val (.int (own_I nb)), .val (.ref b19), .val (.ref b20), .unset] [(.int (own_I na))])
      refine Go.of (fun _ kz => XS.iload X20.here hx rfl (hb hby at_232) rfl kz) ?_
      show Go p e below _ T20 (mkF m 234 #[.val (.int x0), .val (.int x1), .val (.int x2), .val (.int x3), .val (.int x4), .val (.int x5), .val (.int (own_I mx)), .val (.int sm), .val (.int v1), .val (.int v2), .val (.int w1), .val (.int w2), .val (.int (own_I na)), .val (.int (own_I nb)), .val (.ref b19), .val (.ref b20), .unset] [(.int (own_I nb)), (.int (own_I na))])
      refine Go.of (fun _ kz => XS.iload X20.here hx rfl (hb hby at_234) rfl kz) ?_
      show Go p e below _ T20 (mkF m 236 #[.val (.int x0), .val (.int x1), .val (.int x2), .val (.int x3), .val (.int x4), .val (.int x5), .val (.int (own_I mx)), .val (.int sm), .val (.int v1), .val (.int v2), .val (.int w1), .val (.int w2), .val (.int (own_I na)), .val (.int (own_I nb)), .val (.ref b19), .val (.ref b20), .unset] [(.int v1), (.int (own_I nb)), (.int (own_I na))])
      refine Go.of (fun _ kz => XS.iload X20.here hx rfl (hb hby at_236) rfl kz) ?_
      show Go p e below _ T20 (mkF m 238 #[.val (.int x0), .val (.int x1), .val (.int x2), .val (.int x3), .val (.int x4), .val (.int x5), .val (.int (own_I mx)), .val (.int sm), .val (.int v1), .val (.int v2), .val (.int w1), .val (.int w2), .val (.int (own_I na)), .val (.int (own_I nb)), .val (.ref b19), .val (.ref b20), .unset] [(.int v2), (.int v1), (.int (own_I nb)), (.int (own_I na))])
      refine Go.of (fun _ kz => XS.iload X20.here hx rfl (hb hby at_238) rfl kz) ?_
      show Go p e below _ T20 (mkF m 240 #[.val (.int x0), .val (.int x1), .val (.int x2), .val (.int x3), .val (.int x4), .val (.int x5), .val (.int (own_I mx)), .val (.int sm), .val (.int v1), .val (.int v2), .val (.int w1), .val (.int w2), .val (.int (own_I na)), .val (.int (own_I nb)), .val (.ref b19), .val (.ref b20), .unset] [(.int w1), (.int v2), (.int v1), (.int (own_I nb)), (.int (own_I na))])
      refine Go.of (fun _ kz => XS.iload X20.here hx rfl (hb hby at_240) rfl kz) ?_
      show Go p e below _ T20 (mkF m 242 #[.val (.int x0), .val (.int x1), .val (.int x2), .val (.int x3), .val (.int x4), .val (.int x5), .val (.int (own_I mx)), .val (.int sm), .val (.int v1), .val (.int v2), .val (.int w1), .val (.int w2), .val (.int (own_I na)), .val (.int (own_I nb)), .val (.ref b19), .val (.ref b20), .unset] [(.int w2), (.int w1), (.int v2), (.int v1), (.int (own_I nb)), (.int (own_I na))])
      refine Go.callSP (W := 0) (y := (⟨"com/example/keen_guess/keenguess/edit/EditDistanceDistancePinLaw", "reference", "(IIIIII)I"⟩ : MethodName)) (argsL := [(.int (own_I na)), (.int (own_I nb)), (.int v1), (.int v2), (.int w1), (.int w2)]) (rest := []) (r := some (.int (own_ref (own_I na) (own_I nb) v1 v2 w1 w2))) X20 hx hZ hown (hw _ (List.mem_of_getElem? (i := 5) rfl)) (hw _ (List.mem_of_getElem? (i := 6) rfl)) (hw _ (List.mem_of_getElem? (i := 2) rfl)) (hw _ (List.mem_of_getElem? (i := 7) rfl)) (by decide) (own_rmF l Z a0 hw (own_I na) (own_I nb) v1 v2 w1 w2 T20.heap) rfl (by rw [hml]; rfl) (lenOf own_dsc6 rfl) (hb hby at_242) rfl (Nat.le_of_eq rfl) (by decide) (by decide) (by decide) (by decide) fun T21 X21 e21 => ?_
      show Go p e below _ T21 (mkF m 245 #[.val (.int x0), .val (.int x1), .val (.int x2), .val (.int x3), .val (.int x4), .val (.int x5), .val (.int (own_I mx)), .val (.int sm), .val (.int v1), .val (.int v2), .val (.int w1), .val (.int w2), .val (.int (own_I na)), .val (.int (own_I nb)), .val (.ref b19), .val (.ref b20), .unset] [(.int (own_ref (own_I na) (own_I nb) v1 v2 w1 w2))])
      refine Go.of (fun _ kz => XS.istore X21.here hx rfl (hb hby at_245) rfl (l' := #[.val (.int x0), .val (.int x1), .val (.int x2), .val (.int x3), .val (.int x4), .val (.int x5), .val (.int (own_I mx)), .val (.int sm), .val (.int v1), .val (.int v2), .val (.int w1), .val (.int w2), .val (.int (own_I na)), .val (.int (own_I nb)), .val (.ref b19), .val (.ref b20), .val (.int (own_ref (own_I na) (own_I nb) v1 v2 w1 w2))]) rfl kz) ?_
      show Go p e below _ T21 (mkF m 247 #[.val (.int x0), .val (.int x1), .val (.int x2), .val (.int x3), .val (.int x4), .val (.int x5), .val (.int (own_I mx)), .val (.int sm), .val (.int v1), .val (.int v2), .val (.int w1), .val (.int w2), .val (.int (own_I na)), .val (.int (own_I nb)), .val (.ref b19), .val (.ref b20), .val (.int (own_ref (own_I na) (own_I nb) v1 v2 w1 w2))] [])
      refine Go.of (fun _ kz => XS.aload X21.here hx rfl (hb hby at_247) rfl rfl kz) ?_
      show Go p e below _ T21 (mkF m 249 #[.val (.int x0), .val (.int x1), .val (.int x2), .val (.int x3), .val (.int x4), .val (.int x5), .val (.int (own_I mx)), .val (.int sm), .val (.int v1), .val (.int v2), .val (.int w1), .val (.int w2), .val (.int (own_I na)), .val (.int (own_I nb)), .val (.ref b19), .val (.ref b20), .val (.int (own_ref (own_I na) (own_I nb) v1 v2 w1 w2))] [(.ref b19)])
      refine Go.of (fun _ kz => XS.aload X21.here hx rfl (hb hby at_249) rfl rfl kz) ?_
      show Go p e below _ T21 (mkF m 251 #[.val (.int x0), .val (.int x1), .val (.int x2), .val (.int x3), .val (.int x4), .val (.int x5), .val (.int (own_I mx)), .val (.int sm), .val (.int v1), .val (.int v2), .val (.int w1), .val (.int w2), .val (.int (own_I na)), .val (.int (own_I nb)), .val (.ref b19), .val (.ref b20), .val (.int (own_ref (own_I na) (own_I nb) v1 v2 w1 w2))] [(.ref b20), (.ref b19)])
      refine Go.of (fun _ kz => XS.iload X21.here hx rfl (hb hby at_251) rfl kz) ?_
      show Go p e below _ T21 (mkF m 253 #[.val (.int x0), .val (.int x1), .val (.int x2), .val (.int x3), .val (.int x4), .val (.int x5), .val (.int (own_I mx)), .val (.int sm), .val (.int v1), .val (.int v2), .val (.int w1), .val (.int w2), .val (.int (own_I na)), .val (.int (own_I nb)), .val (.ref b19), .val (.ref b20), .val (.int (own_ref (own_I na) (own_I nb) v1 v2 w1 w2))] [(.int (own_I mx)), (.ref b20), (.ref b19)])
      refine Go.callS (W := 0) (y := (⟨"com/example/keen_guess/keenguess/edit/EditDistance", "distance", "([I[II)I"⟩ : MethodName)) (argsL := [(.ref b19), (.ref b20), (.int (own_I mx))]) (rest := []) X21 hx hZ hown (hw _ (List.mem_of_getElem? (i := 8) rfl)) (hw _ (List.mem_of_getElem? (i := 9) rfl)) (hw _ (List.mem_of_getElem? (i := 10) rfl)) (hw _ (List.mem_of_getElem? (i := 11) rfl)) (by decide) (own_rmD l Z a0 hw b19 b20 k19 k20 na nb (fun i => [v1, v2].getD i 0) (fun i => [w1, w2].getD i 0) mx T20.heap (by omega) (by omega) lmx (V19.keep K20 nin0) V20) e21 (by rw [hml]; rfl) (lenOf own_dsc4 rfl) (hb hby at_253) rfl (Nat.le_of_eq rfl) (by decide) (by decide) (by decide) (by decide) fun _ T22 L22 X22 q22 => ?_
      obtain ⟨rfl, N22q⟩ := q22
      have N22 := Fr.app N20 (fun y hy => Nat.le_trans sz20 (N22q y hy))
      show Go p e below _ T22 (mkF m 256 #[.val (.int x0), .val (.int x1), .val (.int x2), .val (.int x3), .val (.int x4), .val (.int x5), .val (.int (own_I mx)), .val (.int sm), .val (.int v1), .val (.int v2), .val (.int w1), .val (.int w2), .val (.int (own_I na)), .val (.int (own_I nb)), .val (.ref b19), .val (.ref b20), .val (.int (own_ref (own_I na) (own_I nb) v1 v2 w1 w2))] [(.int (own_dist (own_E na nb (fun i => [v1, v2].getD i 0) (fun i => [w1, w2].getD i 0)) na nb mx))])
      refine Go.of (fun _ kz => XS.iload X22.here hx rfl (hb hby at_256) rfl kz) ?_
      show Go p e below _ T22 (mkF m 258 #[.val (.int x0), .val (.int x1), .val (.int x2), .val (.int x3), .val (.int x4), .val (.int x5), .val (.int (own_I mx)), .val (.int sm), .val (.int v1), .val (.int v2), .val (.int w1), .val (.int w2), .val (.int (own_I na)), .val (.int (own_I nb)), .val (.ref b19), .val (.ref b20), .val (.int (own_ref (own_I na) (own_I nb) v1 v2 w1 w2))] [(.int (own_ref (own_I na) (own_I nb) v1 v2 w1 w2)), (.int (own_dist (own_E na nb (fun i => [v1, v2].getD i 0) (fun i => [w1, w2].getD i 0)) na nb mx))])
      refine Go.of (fun _ kz => XS.iload X22.here hx rfl (hb hby at_258) rfl kz) ?_
      show Go p e below _ T22 (mkF m 260 #[.val (.int x0), .val (.int x1), .val (.int x2), .val (.int x3), .val (.int x4), .val (.int x5), .val (.int (own_I mx)), .val (.int sm), .val (.int v1), .val (.int v2), .val (.int w1), .val (.int w2), .val (.int (own_I na)), .val (.int (own_I nb)), .val (.ref b19), .val (.ref b20), .val (.int (own_ref (own_I na) (own_I nb) v1 v2 w1 w2))] [(.int (own_I mx)), (.int (own_ref (own_I na) (own_I nb) v1 v2 w1 w2)), (.int (own_dist (own_E na nb (fun i => [v1, v2].getD i 0) (fun i => [w1, w2].getD i 0)) na nb mx))])
      refine Go.of (fun _ kz => XS.iconst X22.here hx rfl (hb hby at_260) kz) ?_
      show Go p e below _ T22 (mkF m 261 #[.val (.int x0), .val (.int x1), .val (.int x2), .val (.int x3), .val (.int x4), .val (.int x5), .val (.int (own_I mx)), .val (.int sm), .val (.int v1), .val (.int v2), .val (.int w1), .val (.int w2), .val (.int (own_I na)), .val (.int (own_I nb)), .val (.ref b19), .val (.ref b20), .val (.int (own_ref (own_I na) (own_I nb) v1 v2 w1 w2))] [(.int (1 : Int32)), (.int (own_I mx)), (.int (own_ref (own_I na) (own_I nb) v1 v2 w1 w2)), (.int (own_dist (own_E na nb (fun i => [v1, v2].getD i 0) (fun i => [w1, w2].getD i 0)) na nb mx))])
      refine Go.of (fun _ kz => XS.iadd X22.here hx rfl (hb hby at_261) rfl kz) ?_
      show Go p e below _ T22 (mkF m 262 #[.val (.int x0), .val (.int x1), .val (.int x2), .val (.int x3), .val (.int x4), .val (.int x5), .val (.int (own_I mx)), .val (.int sm), .val (.int v1), .val (.int v2), .val (.int w1), .val (.int w2), .val (.int (own_I na)), .val (.int (own_I nb)), .val (.ref b19), .val (.ref b20), .val (.int (own_ref (own_I na) (own_I nb) v1 v2 w1 w2))] [(.int ((own_I mx) + (1 : Int32))), (.int (own_ref (own_I na) (own_I nb) v1 v2 w1 w2)), (.int (own_dist (own_E na nb (fun i => [v1, v2].getD i 0) (fun i => [w1, w2].getD i 0)) na nb mx))])
      refine Go.callSP (W := 1) (y := (⟨"java/lang/Math", "min", "(II)I"⟩ : MethodName)) (argsL := [(.int (own_ref (own_I na) (own_I nb) v1 v2 w1 w2)), (.int ((own_I mx) + (1 : Int32)))]) (rest := [(.int (own_dist (own_E na nb (fun i => [v1, v2].getD i 0) (fun i => [w1, w2].getD i 0)) na nb mx))]) (r := some (.int (own_min (own_ref (own_I na) (own_I nb) v1 v2 w1 w2) ((own_I mx) + (1 : Int32))))) X22 hx hZ hown (hw _ (List.mem_of_getElem? (i := 21) rfl)) (hw _ (List.mem_of_getElem? (i := 19) rfl)) (hw _ (List.mem_of_getElem? (i := 14) rfl)) (hw _ (List.mem_of_getElem? (i := 20) rfl)) (by decide) (own_rmMin l Z a0 hw (own_ref (own_I na) (own_I nb) v1 v2 w1 w2) ((own_I mx) + (1 : Int32)) T22.heap) rfl (by rw [hml]; rfl) (lenOf own_dsc2 rfl) (hb hby at_262) rfl (Nat.le_of_eq rfl) (by decide) (by decide) (by decide) (by decide) fun T23 X23 e23 => ?_
      show Go p e below _ T23 (mkF m 265 #[.val (.int x0), .val (.int x1), .val (.int x2), .val (.int x3), .val (.int x4), .val (.int x5), .val (.int (own_I mx)), .val (.int sm), .val (.int v1), .val (.int v2), .val (.int w1), .val (.int w2), .val (.int (own_I na)), .val (.int (own_I nb)), .val (.ref b19), .val (.ref b20), .val (.int (own_ref (own_I na) (own_I nb) v1 v2 w1 w2))] [(.int (own_min (own_ref (own_I na) (own_I nb) v1 v2 w1 w2) ((own_I mx) + (1 : Int32)))), (.int (own_dist (own_E na nb (fun i => [v1, v2].getD i 0) (fun i => [w1, w2].getD i 0)) na nb mx))])
      refine Go.of (fun _ kz => XS.icmpNo X23.here hx rfl (hb hby at_265) rfl (teq (own_fin (own_le2 lna hc95) (own_le2 lnb hc153) lmx v1 v2 w1 w2 : (own_dist (own_E na nb (fun i => [v1, v2].getD i 0) (fun i => [w1, w2].getD i 0)) na nb mx) = (own_min (own_ref (own_I na) (own_I nb) v1 v2 w1 w2) ((own_I mx) + (1 : Int32))))).2 kz) ?_
      show Go p e below _ T23 (mkF m 268 #[.val (.int x0), .val (.int x1), .val (.int x2), .val (.int x3), .val (.int x4), .val (.int x5), .val (.int (own_I mx)), .val (.int sm), .val (.int v1), .val (.int v2), .val (.int w1), .val (.int w2), .val (.int (own_I na)), .val (.int (own_I nb)), .val (.ref b19), .val (.ref b20), .val (.int (own_ref (own_I na) (own_I nb) v1 v2 w1 w2))] [])
      refine Go.of (fun _ kz => XS.iconst X23.here hx rfl (hb hby at_268) kz) ?_
      show Go p e below _ T23 (mkF m 269 #[.val (.int x0), .val (.int x1), .val (.int x2), .val (.int x3), .val (.int x4), .val (.int x5), .val (.int (own_I mx)), .val (.int sm), .val (.int v1), .val (.int v2), .val (.int w1), .val (.int w2), .val (.int (own_I na)), .val (.int (own_I nb)), .val (.ref b19), .val (.ref b20), .val (.int (own_ref (own_I na) (own_I nb) v1 v2 w1 w2))] [(.int (1 : Int32))])
      refine Go.of (fun _ kz => XS.goto X23.here hx rfl (pc0 := 269) (pc' := 273) rfl (hb hby at_269) (by decide) (by decide) kz) ?_
      show Go p e below _ T23 (mkF m 273 #[.val (.int x0), .val (.int x1), .val (.int x2), .val (.int x3), .val (.int x4), .val (.int x5), .val (.int (own_I mx)), .val (.int sm), .val (.int v1), .val (.int v2), .val (.int w1), .val (.int w2), .val (.int (own_I na)), .val (.int (own_I nb)), .val (.ref b19), .val (.ref b20), .val (.int (own_ref (own_I na) (own_I nb) v1 v2 w1 w2))] [(.int (1 : Int32))])
      exact Go.retN X23 hx hlk (t := .boolean) hret (by simp) (hb hby at_273) (by decide) (by decide) ⟨rfl, N22⟩
set_option maxRecDepth 65536 in
set_option maxHeartbeats 40000000 in
theorem comes_1 {Post : Tables → Env → Array Value → State → Outcome → State → Prop} (hpost : ∀ tb e args s v u, (limb_1_1.after args s (.returned v) u = true ∧ limb_1_2.after args s (.returned v) u = true ∧ True) → FrameEnd s (.returned v) u (Jvm.fieldLocs frame_1_writes args s ++ Jvm.arrayLocs frame_1_arrays args s ++ Jvm.staticLocs frame_1_statics s) 32 192 → Post tb e args s (.returned v) u) :
    ArmFor flags0 classFile x code maxLocals ret World_1 tables_1 room_1 Calls_1 rest_1 Pre_1 Post := by
  intro l hfl _ _ p e ha hc hk s m args below hf hA hF happ hP
  obtain ⟨hcalls, hrest, hpre⟩ := hP
  obtain ⟨-, -, -, hnamed, -, -, -, hat⟩ := (Spec.applies_iff hf).mp happ
  obtain ⟨hg, hn⟩ := and_e (Cond.before_iff.mp (show (Jvm.Cond.and given_1 narrow_1).before args s = true from hpre))
  obtain ⟨g0, gg0⟩ := and_e hg
  obtain ⟨ga0, gg1⟩ := and_e gg0
  obtain ⟨ga1, gg2⟩ := and_e gg1
  obtain ⟨ga2, gg3⟩ := and_e gg2
  obtain ⟨ga3, gg4⟩ := and_e gg3
  obtain ⟨ga4, gg5⟩ := and_e gg4
  have ga5 := gg5
  obtain ⟨w0, w1, w2, w3, w4, w5, rfl⟩ : ∃ w0 w1 w2 w3 w4 w5 : Value, args = #[w0, w1, w2, w3, w4, w5] := by
    have hs : args.size = 6 := by simpa [Cond.value, given_1] using g0
    obtain ⟨L⟩ := args
    match L, hs with
    | [w0, w1, w2, w3, w4, w5], _ => exact ⟨w0, w1, w2, w3, w4, w5, rfl⟩
  have hw := fun d (hd : d ∈ tables_1) => atoms_spec (ws := Jvm.Cond.code x code maxLocals ret :: tables_1) hat d (List.mem_cons_of_mem _ hd)
  have hfit : Fit s := fun {y c} hc i hi => by
    obtain ⟨ha, rfl⟩ := Array.getElem?_eq_some_iff.mp hc
    have q := List.all_eq_true.mp ((Array.all_eq_true_iff_forall_mem.mp hF) _ (Array.getElem_mem ha)) i (List.mem_range.mpr hi)
    simpa [Array.getElem?_eq_getElem hi] using q
  obtain ⟨i0, ei0⟩ := is_v ga0
  obtain rfl : w0 = (.int i0) := Option.some.inj ei0
  obtain ⟨i1, ei1⟩ := is_v ga1
  obtain rfl : w1 = (.int i1) := Option.some.inj ei1
  obtain ⟨i2, ei2⟩ := is_v ga2
  obtain rfl : w2 = (.int i2) := Option.some.inj ei2
  obtain ⟨i3, ei3⟩ := is_v ga3
  obtain rfl : w3 = (.int i3) := Option.some.inj ei3
  obtain ⟨i4, ei4⟩ := is_v ga4
  obtain rfl : w4 = (.int i4) := Option.some.inj ei4
  obtain ⟨i5, ei5⟩ := is_v ga5
  obtain rfl : w5 = (.int i5) := Option.some.inj ei5
  obtain ⟨n, o, h1, h2, h3, _, L, rfl, ⟨rfl, N⟩, hq⟩ := rm0 l s _ hw tables_1 i0 i1 i2 i3 i4 i5 s.heap p e ha hc hk s m _ below hf ((Spec.applies_iff_loose hf).mp happ).1 ⟨rfl, State.Warmed39.refl s, rfl⟩ trivial
  refine ⟨n, _, h1, h2, h3, hpost _ _ _ _ _ _ ⟨Cond.after_iff.mpr rfl, Cond.after_iff.mpr (eq_i res_at (Term.int_eval (1)) rfl), trivial⟩ ⟨hq.1, hq.2.1, (hq.2.2.sift fun y hy => Or.inr (N y hy)).mono (by decide) (by decide)⟩⟩
theorem main_1_1 : Claimed_1_1 := comes_1 fun _ _ _ _ _ _ h hF => ⟨h.1, hF⟩
theorem main_1_2 : Claimed_1_2 := comes_1 fun _ _ _ _ _ _ h hF => ⟨h.2.1, hF⟩
end Jvm.Pilot.@@N@@
namespace Jvm.Pilot.@@N@@
open Jvm Jvm.ClassFile Sem Op Lib Jvm.Free Jvm.Stand Jvm.Pilot.@@N@@.Jvm.D
/-! MADE BY PROGRAM (witnessworld.py) out of the Statement's table words and the real class files: 10 classes; the members and pool entries that the words name. The judged class is class 1, her method 1. -/
namespace start1
open Jvm.ClassFile
def u (s : String) : CpInfo := .utf8 (stringToUtf16 s)
/-- a pool by its gaps: so many unusable entries, then the entry; so many at the end -/
def gap : Nat → List CpInfo → List CpInfo
  | 0, r => r
  | n + 1, r => .unusable :: gap n r
def poolList (es : List (Nat × CpInfo)) (last : Nat) : List CpInfo := es.foldr (fun e r => gap e.1 (e.2 :: r)) (gap last [])
def pool (es : List (Nat × CpInfo)) (last : Nat) : Array CpInfo := ⟨poolList es last⟩
def fileOf (pool : Array CpInfo) (this : Nat) (attrs : Array Attribute := #[]) (ms : Array MethodInfo := #[]) (fl : Nat := 33) (sup : Nat := 0) (ifs : Array Nat := #[]) (fds : Array FieldInfo := #[]) : ClassFile where
  minorVersion := 0
  majorVersion := 65
  constantPool := pool
  accessFlags := fl
  thisClass := this
  superClass := sup
  interfaces := ifs
  fields := fds
  methods := ms
  attributes := attrs
def plain (name : String) (sup : Option ClassId) : Class where
  name := name
  kind := .ordinary
  loader := none
  accessFlags := 33
  super := sup
  interfaces := #[]
  cf := none
  fields := #[]
  methods := #[]
  instanceTypes := #[]
  staticTypes := #[]
  resolved := #[]
  callSites := []
  init := .initialized
  statics := none
  mirror := none

def pool0 : Array CpInfo := pool [(5, u "<init>"), (0, u "()V"), (1, .class_ 10), (1, u "java/lang/Object")] 113

def k0m0 : Method := { name := "<init>", desc := "()V", sig := { parameters := [], returnType := none }, accessFlags := 1, code := none }
/-- java/lang/Object -/
def k0 : Class := { plain "java/lang/Object" none with
  accessFlags := 33
  interfaces := #[]
  cf := some (fileOf pool0 8 #[] #[{ accessFlags := 1, nameIndex := 5, descriptorIndex := 6, attributes := #[] }] 33 0 #[] #[])
  fields := #[]
  methods := #[k0m0]
  instanceTypes := #[]
  staticTypes := #[]
  resolved := Array.replicate 124 none
  statics := none }

def pool1 : Array CpInfo := pool [(2, .class_ 4), (1, u "java/lang/Object"), (0, u "<init>"), (0, u "()V"), (0, .methodref 8 9), (0, .class_ 10), (0, .nameAndType 11 12), (0, u "com/example/keen_guess/keenguess/edit/EditDistanceDistancePinLaw"), (0, u "make"), (0, u "(III)[I"), (0, .methodref 8 14), (0, .nameAndType 15 16), (0, u "reference"), (0, u "(IIIIII)I"), (0, .methodref 18 19), (0, .class_ 20), (0, .nameAndType 21 22), (0, u "com/example/keen_guess/keenguess/edit/EditDistance"), (0, u "distance"), (0, u "([I[II)I"), (0, .methodref 24 25), (0, .class_ 26), (0, .nameAndType 27 28), (0, u "java/lang/Math"), (0, u "min"), (0, u "(II)I"), (2, u "law"), (0, u "(IIIIII)Z")] 5

def k1m0 : Method := { name := "<init>", desc := "()V", sig := { parameters := [], returnType := none }, accessFlags := 2, code := none }
def k1c1 : Code := { maxStack := 6, maxLocals := 17, code := code, exceptionTable := #[], attributes := #[] }
def k1m1 : Method := { name := "law", desc := "(IIIIII)Z", sig := { parameters := [.int, .int, .int, .int, .int, .int], returnType := some .boolean }, accessFlags := 9, code := some k1c1 }
def k1c2 : Code := { maxStack := 4, maxLocals := 3, code := method_3_code, exceptionTable := #[], attributes := #[] }
def k1m2 : Method := { name := "make", desc := "(III)[I", sig := { parameters := [.int, .int, .int], returnType := some (.array .int) }, accessFlags := 10, code := some k1c2 }
def k1c3 : Code := { maxStack := 2, maxLocals := 6, code := method_4_code, exceptionTable := #[], attributes := #[] }
def k1m3 : Method := { name := "reference", desc := "(IIIIII)I", sig := { parameters := [.int, .int, .int, .int, .int, .int], returnType := some .int }, accessFlags := 10, code := some k1c3 }
/-- com/example/keen_guess/keenguess/edit/EditDistanceDistancePinLaw -/
def k1 : Class := { plain "com/example/keen_guess/keenguess/edit/EditDistanceDistancePinLaw" (some 0) with
  accessFlags := 49
  interfaces := #[]
  cf := some (fileOf pool1 8 #[] #[{ accessFlags := 2, nameIndex := 5, descriptorIndex := 6, attributes := #[] }, { accessFlags := 9, nameIndex := 31, descriptorIndex := 32, attributes := #[] }, { accessFlags := 10, nameIndex := 11, descriptorIndex := 12, attributes := #[] }, { accessFlags := 10, nameIndex := 15, descriptorIndex := 16, attributes := #[] }] 49 2 #[] #[])
  fields := #[]
  methods := #[k1m0, k1m1, k1m2, k1m3]
  instanceTypes := #[]
  staticTypes := #[]
  resolved := Array.replicate 38 none
  statics := none }

def pool2 : Array CpInfo := pool [(2, .class_ 4), (1, u "java/lang/Object"), (0, u "<init>"), (0, u "()V"), (9, .methodref 17 18), (0, .class_ 19), (0, .nameAndType 20 21), (0, u "java/lang/Math"), (0, u "abs"), (0, u "(I)I"), (0, .class_ 23), (0, u "[[I"), (0, .methodref 17 25), (0, .nameAndType 26 27), (0, u "min"), (0, u "(II)I"), (0, .methodref 17 29), (0, .nameAndType 30 27), (0, u "max"), (0, .methodref 32 33), (0, .class_ 34), (0, .nameAndType 35 36), (0, u "com/example/keen_guess/keenguess/edit/EditDistance"), (0, u "swap"), (0, u "([I[IIII[[I)I"), (0, .methodref 32 38), (0, .nameAndType 39 40), (0, u "lastBefore"), (0, u "([IIII)I"), (2, u "distance"), (0, u "([I[II)I")] 20

def k2m0 : Method := { name := "<init>", desc := "()V", sig := { parameters := [], returnType := none }, accessFlags := 2, code := none }
def k2c1 : Code := { maxStack := 7, maxLocals := 14, code := prog_31_method_2_code, exceptionTable := #[], attributes := #[] }
def k2m1 : Method := { name := "distance", desc := "([I[II)I", sig := { parameters := [(.array .int), (.array .int), .int], returnType := some .int }, accessFlags := 9, code := some k2c1 }
def k2c2 : Code := { maxStack := 5, maxLocals := 9, code := prog_31_method_3_code, exceptionTable := #[], attributes := #[] }
def k2m2 : Method := { name := "swap", desc := "([I[IIII[[I)I", sig := { parameters := [(.array .int), (.array .int), .int, .int, .int, (.array (.array .int))], returnType := some .int }, accessFlags := 10, code := some k2c2 }
def k2c3 : Code := { maxStack := 3, maxLocals := 5, code := prog_31_method_4_code, exceptionTable := #[], attributes := #[] }
def k2m3 : Method := { name := "lastBefore", desc := "([IIII)I", sig := { parameters := [(.array .int), .int, .int, .int], returnType := some .int }, accessFlags := 10, code := some k2c3 }
/-- com/example/keen_guess/keenguess/edit/EditDistance -/
def k2 : Class := { plain "com/example/keen_guess/keenguess/edit/EditDistance" (some 0) with
  accessFlags := 33
  interfaces := #[]
  cf := some (fileOf pool2 32 #[] #[{ accessFlags := 2, nameIndex := 5, descriptorIndex := 6, attributes := #[] }, { accessFlags := 9, nameIndex := 43, descriptorIndex := 44, attributes := #[] }, { accessFlags := 10, nameIndex := 35, descriptorIndex := 36, attributes := #[] }, { accessFlags := 10, nameIndex := 39, descriptorIndex := 40, attributes := #[] }] 33 2 #[] #[])
  fields := #[]
  methods := #[k2m0, k2m1, k2m2, k2m3]
  instanceTypes := #[]
  staticTypes := #[]
  resolved := Array.replicate 65 none
  statics := none }

def pool3 : Array CpInfo := pool [(1, .class_ 2), (0, u "java/lang/Math"), (1, .class_ 6), (1, u "java/lang/Object"), (0, u "<init>"), (0, u "()V"), (89, .class_ 100), (1, u "java/lang/Math$RandomNumberGeneratorHolder"), (23, u "abs"), (34, u "(I)I"), (12, u "negativeZeroFloatBits"), (0, u "J"), (2, u "negativeZeroDoubleBits"), (21, u "max"), (2, u "min"), (43, u "$assertionsDisabled"), (0, u "Z"), (88, u "(II)I"), (2, u "twoToTheDoubleScaleDown"), (0, u "D"), (4, u "twoToTheDoubleScaleUp"), (9, u "E"), (3, u "PI"), (2, u "TAU"), (2, u "DEGREES_TO_RADIANS"), (0, u "RADIANS_TO_DEGREES")] 94

def k3m0 : Method := { name := "<init>", desc := "()V", sig := { parameters := [], returnType := none }, accessFlags := 2, code := none }
def k3c1 : Code := { maxStack := 1, maxLocals := 1, code := jdk_29_method_59_code, exceptionTable := #[], attributes := #[] }
def k3m1 : Method := { name := "abs", desc := "(I)I", sig := { parameters := [.int], returnType := some .int }, accessFlags := 9, code := some k3c1 }
def k3c2 : Code := { maxStack := 2, maxLocals := 2, code := jdk_29_method_65_code, exceptionTable := #[], attributes := #[] }
def k3m2 : Method := { name := "max", desc := "(II)I", sig := { parameters := [.int, .int], returnType := some .int }, accessFlags := 9, code := some k3c2 }
def k3c3 : Code := { maxStack := 2, maxLocals := 2, code := jdk_29_method_69_code, exceptionTable := #[], attributes := #[] }
def k3m3 : Method := { name := "min", desc := "(II)I", sig := { parameters := [.int, .int], returnType := some .int }, accessFlags := 9, code := some k3c3 }
/-- java/lang/Math -/
def k3 : Class := { plain "java/lang/Math" (some 0) with
  accessFlags := 49
  interfaces := #[]
  cf := some (fileOf pool3 1 #[.nestMembers #[98]] #[{ accessFlags := 2, nameIndex := 7, descriptorIndex := 8, attributes := #[] }, { accessFlags := 9, nameIndex := 124, descriptorIndex := 159, attributes := #[] }, { accessFlags := 9, nameIndex := 198, descriptorIndex := 335, attributes := #[] }, { accessFlags := 9, nameIndex := 201, descriptorIndex := 335, attributes := #[] }] 49 4 #[] #[{ accessFlags := 25, nameIndex := 354, descriptorIndex := 339, attributes := #[] }, { accessFlags := 25, nameIndex := 358, descriptorIndex := 339, attributes := #[] }, { accessFlags := 25, nameIndex := 361, descriptorIndex := 339, attributes := #[] }, { accessFlags := 26, nameIndex := 364, descriptorIndex := 339, attributes := #[] }, { accessFlags := 26, nameIndex := 365, descriptorIndex := 339, attributes := #[] }, { accessFlags := 26, nameIndex := 172, descriptorIndex := 173, attributes := #[] }, { accessFlags := 26, nameIndex := 176, descriptorIndex := 173, attributes := #[] }, { accessFlags := 8, nameIndex := 344, descriptorIndex := 339, attributes := #[] }, { accessFlags := 8, nameIndex := 338, descriptorIndex := 339, attributes := #[] }, { accessFlags := 4120, nameIndex := 245, descriptorIndex := 246, attributes := #[] }])
  fields := #[{ name := "E", type := .double, accessFlags := 25, slot := 0, constantValue := 0 }, { name := "PI", type := .double, accessFlags := 25, slot := 1, constantValue := 0 }, { name := "TAU", type := .double, accessFlags := 25, slot := 2, constantValue := 0 }, { name := "DEGREES_TO_RADIANS", type := .double, accessFlags := 26, slot := 3, constantValue := 0 }, { name := "RADIANS_TO_DEGREES", type := .double, accessFlags := 26, slot := 4, constantValue := 0 }, { name := "negativeZeroFloatBits", type := .long, accessFlags := 26, slot := 5, constantValue := 0 }, { name := "negativeZeroDoubleBits", type := .long, accessFlags := 26, slot := 6, constantValue := 0 }, { name := "twoToTheDoubleScaleUp", type := .double, accessFlags := 8, slot := 7, constantValue := 0 }, { name := "twoToTheDoubleScaleDown", type := .double, accessFlags := 8, slot := 8, constantValue := 0 }, { name := "$assertionsDisabled", type := .boolean, accessFlags := 4120, slot := 9, constantValue := 0 }]
  methods := #[k3m0, k3m1, k3m2, k3m3]
  instanceTypes := #[]
  staticTypes := #[.double, .double, .double, .double, .double, .long, .long, .double, .double, .boolean]
  resolved := Array.replicate 460 none
  statics := none }

def pool4 : Array CpInfo := pool [(1, u "java/lang/Cloneable"), (0, .class_ 1), (0, u "java/lang/Object"), (0, .class_ 3)] 3

/-- java/lang/Cloneable -/
def k4 : Class := { plain "java/lang/Cloneable" (some 0) with
  accessFlags := 1537
  interfaces := #[]
  cf := some (fileOf pool4 2 #[] #[] 1537 4 #[] #[])
  fields := #[]
  methods := #[]
  instanceTypes := #[]
  staticTypes := #[]
  resolved := Array.replicate 8 none
  statics := none }

def pool5 : Array CpInfo := pool [(1, u "java/io/Serializable"), (0, .class_ 1), (0, u "java/lang/Object"), (0, .class_ 3)] 3

/-- java/io/Serializable -/
def k5 : Class := { plain "java/io/Serializable" (some 0) with
  accessFlags := 1537
  interfaces := #[]
  cf := some (fileOf pool5 2 #[] #[] 1537 4 #[] #[])
  fields := #[]
  methods := #[]
  instanceTypes := #[]
  staticTypes := #[]
  resolved := Array.replicate 8 none
  statics := none }

/-- the primitive byte -/
def k6 : Class := { plain "byte" none with kind := .primitive 'B', accessFlags := 0x411 }
/-- [B -/
def k7 : Class := { plain "[B" (some 0) with kind := .array 6 .byte, interfaces := #[4, 5], accessFlags := 1041 }

/-- the primitive int -/
def k8 : Class := { plain "int" none with kind := .primitive 'I', accessFlags := 0x411 }
/-- [I -/
def k9 : Class := { plain "[I" (some 0) with kind := .array 8 .int, interfaces := #[4, 5], accessFlags := 1041 }
/-- [[I -/
def k10 : Class := { plain "[[I" (some 0) with kind := .array 9 (.array .int), interfaces := #[4, 5], accessFlags := 1041 }

def heap : Heap := #[]
def classes : Array Class := #[k0, k1, k2, k3, k4, k5, k6, k7, k8, k9, k10]
def interned : List (Array UInt16 × Addr) := []
def slotsUsed : Nat := 0
def theMethod : MethodId := ⟨1, 1⟩
def args0 : Array Value := #[.int 5, .int 7, .int 3, .int 2, .int 1, .int 4]
def aboutOver (below : List Frame) : State where
  vm := { classes := classes, interned := interned.toArray }
  heap := heap
  slotsUsed := slotsUsed
  threads := #[{ frames := .invoking theMethod args0 :: below }]
def below0 : List Frame := [.native { method := ⟨0, 0⟩, args := #[] }]
def about1 : State := aboutOver below0
def p0 : Program := .bare "" "" ""
def e0 : Env := launch0.env 0 0 0
theorem w_frames : about1.frames = Frame.invoking theMethod args0 :: below0 := rfl
set_option maxRecDepth 65536 in
theorem w_args : argsFit about1.vm theMethod args0 = true := by decide +kernel
set_option maxRecDepth 65536 in
theorem w_heap : heapFits about1 = true := by decide +kernel
set_option maxRecDepth 65536 in
theorem w_runnable : about1.curStatus? = some .runnable := by decide +kernel
set_option maxRecDepth 65536 in
theorem w_alone : about1.alone = true := by decide +kernel
set_option maxRecDepth 65536 in
theorem w_named : about1.methodNamed? x = some theMethod := by decide +kernel
set_option maxRecDepth 65536 in
theorem w_hears : about1.hears theMethod below0 = true := by decide +kernel
set_option maxRecDepth 65536 in
theorem w_ripe : about1.ripe theMethod args0 below0 = true := by decide +kernel
theorem w_running : about1.status = .running := rfl
set_option maxRecDepth 65536 in
theorem w_room : about1.hasRoom e0.platform room_1 = true :=
  launch0.hasRoom_least _ room_1 (by decide +kernel) (by decide +kernel) (by decide +kernel) (by decide +kernel) (by decide +kernel) (by decide +kernel)
theorem allAtoms_all (ts : List Jvm.Cond) (a : Array Jvm.Value) (st : Jvm.State) : (allAtoms ts).before a st = ts.all (fun c => c.before a st) := by
  induction ts with
  | nil => rfl
  | cons c t ih =>
    show (Jvm.Cond.and c (allAtoms t)).before a st = _
    rw [Jvm.Cond.before_and, ih, List.all_cons]
def words1 : List Jvm.Cond := Jvm.Cond.code x code maxLocals ret :: tables_1
/-- a 'code' word, met by the world's own term for the bytes: nothing is compared byte by byte -/
theorem code_word {y : MethodName} {bytes : ByteArray} {mx : Nat} {rt : Option FieldType} {a : Array Value} {s : State} {m : MethodId} {meth : Method} {c : Code} (h1 : s.methodNamed? y = some m) (h2 : s.vm.method? m = some meth) (h3 : meth.code = some c) (h4 : c.code = bytes)
    (h5 : (c.maxLocals == mx && c.exceptionTable.isEmpty && decide (c.maxStack ≤ mostOperands) && decide (meth.sig.returnType = rt) && !meth.locks && decide (parseMethodDescriptor y.desc = some meth.sig)) = true) : (Jvm.Cond.code y bytes mx rt).before a s = true := by
  simp only [Bool.and_eq_true, beq_iff_eq, Bool.not_eq_true', decide_eq_true_eq] at h5
  obtain ⟨⟨⟨⟨⟨g1, g2⟩, g3⟩, g4⟩, g5⟩, g6⟩ := h5
  simp [Cond.before, Cond.holds, Cond.value, h1, h2, h3, h4, g1, g2, g3, g4, g5, g6]
def isCode : Jvm.Cond → Bool
  | .code _ _ _ _ => true
  | _ => false
theorem all_split {L : List Jvm.Cond} {P : Jvm.Cond → Bool} (h1 : L.all (fun c => isCode c || P c) = true) (h2 : ∀ c ∈ L.filter isCode, P c = true) : L.all P = true := by
  refine List.all_eq_true.mpr fun c hc => ?_
  have h := List.all_eq_true.mp h1 c hc
  rcases Bool.eq_false_or_eq_true (isCode c) with hi | hi
  · exact h2 c (List.mem_filter.mpr ⟨hc, hi⟩)
  · simpa [hi] using h
set_option maxRecDepth 65536 in
theorem w_c0 : (Jvm.Cond.code x code maxLocals ret).before args0 about1 = true := code_word (m := ⟨1, 1⟩) (meth := k1m1) (c := k1c1) (by decide +kernel) rfl rfl rfl (by decide +kernel)
set_option maxRecDepth 65536 in
theorem w_c1 : (Jvm.Cond.code ({ cls := "com/example/keen_guess/keenguess/edit/EditDistanceDistancePinLaw", name := "make", desc := "(III)[I" } : Jvm.MethodName) method_3_code (3 : Nat) (Option.some (Jvm.ClassFile.FieldType.array Jvm.ClassFile.FieldType.int))).before args0 about1 = true := code_word (m := ⟨1, 2⟩) (meth := k1m2) (c := k1c2) (by decide +kernel) rfl rfl rfl (by decide +kernel)
set_option maxRecDepth 65536 in
theorem w_c2 : (Jvm.Cond.code ({ cls := "com/example/keen_guess/keenguess/edit/EditDistanceDistancePinLaw", name := "reference", desc := "(IIIIII)I" } : Jvm.MethodName) method_4_code (6 : Nat) (Option.some Jvm.ClassFile.FieldType.int)).before args0 about1 = true := code_word (m := ⟨1, 3⟩) (meth := k1m3) (c := k1c3) (by decide +kernel) rfl rfl rfl (by decide +kernel)
set_option maxRecDepth 65536 in
theorem w_c3 : (Jvm.Cond.code ({ cls := "com/example/keen_guess/keenguess/edit/EditDistance", name := "distance", desc := "([I[II)I" } : Jvm.MethodName) prog_31_method_2_code (14 : Nat) (Option.some Jvm.ClassFile.FieldType.int)).before args0 about1 = true := code_word (m := ⟨2, 1⟩) (meth := k2m1) (c := k2c1) (by decide +kernel) rfl rfl rfl (by decide +kernel)
set_option maxRecDepth 65536 in
theorem w_c4 : (Jvm.Cond.code ({ cls := "java/lang/Math", name := "abs", desc := "(I)I" } : Jvm.MethodName) jdk_29_method_59_code (1 : Nat) (Option.some Jvm.ClassFile.FieldType.int)).before args0 about1 = true := code_word (m := ⟨3, 1⟩) (meth := k3m1) (c := k3c1) (by decide +kernel) rfl rfl rfl (by decide +kernel)
set_option maxRecDepth 65536 in
theorem w_c5 : (Jvm.Cond.code ({ cls := "java/lang/Math", name := "min", desc := "(II)I" } : Jvm.MethodName) jdk_29_method_69_code (2 : Nat) (Option.some Jvm.ClassFile.FieldType.int)).before args0 about1 = true := code_word (m := ⟨3, 3⟩) (meth := k3m3) (c := k3c3) (by decide +kernel) rfl rfl rfl (by decide +kernel)
set_option maxRecDepth 65536 in
theorem w_c6 : (Jvm.Cond.code ({ cls := "java/lang/Math", name := "max", desc := "(II)I" } : Jvm.MethodName) jdk_29_method_65_code (2 : Nat) (Option.some Jvm.ClassFile.FieldType.int)).before args0 about1 = true := code_word (m := ⟨3, 2⟩) (meth := k3m2) (c := k3c2) (by decide +kernel) rfl rfl rfl (by decide +kernel)
set_option maxRecDepth 65536 in
theorem w_c7 : (Jvm.Cond.code ({ cls := "com/example/keen_guess/keenguess/edit/EditDistance", name := "swap", desc := "([I[IIII[[I)I" } : Jvm.MethodName) prog_31_method_3_code (9 : Nat) (Option.some Jvm.ClassFile.FieldType.int)).before args0 about1 = true := code_word (m := ⟨2, 2⟩) (meth := k2m2) (c := k2c2) (by decide +kernel) rfl rfl rfl (by decide +kernel)
set_option maxRecDepth 65536 in
theorem w_c8 : (Jvm.Cond.code ({ cls := "com/example/keen_guess/keenguess/edit/EditDistance", name := "lastBefore", desc := "([IIII)I" } : Jvm.MethodName) prog_31_method_4_code (5 : Nat) (Option.some Jvm.ClassFile.FieldType.int)).before args0 about1 = true := code_word (m := ⟨2, 3⟩) (meth := k2m3) (c := k2c3) (by decide +kernel) rfl rfl rfl (by decide +kernel)
def codes1 : List Jvm.Cond := [Jvm.Cond.code x code maxLocals ret, Jvm.Cond.code ({ cls := "com/example/keen_guess/keenguess/edit/EditDistanceDistancePinLaw", name := "make", desc := "(III)[I" } : Jvm.MethodName) method_3_code (3 : Nat) (Option.some (Jvm.ClassFile.FieldType.array Jvm.ClassFile.FieldType.int)), Jvm.Cond.code ({ cls := "com/example/keen_guess/keenguess/edit/EditDistanceDistancePinLaw", name := "reference", desc := "(IIIIII)I" } : Jvm.MethodName) method_4_code (6 : Nat) (Option.some Jvm.ClassFile.FieldType.int), Jvm.Cond.code ({ cls := "com/example/keen_guess/keenguess/edit/EditDistance", name := "distance", desc := "([I[II)I" } : Jvm.MethodName) prog_31_method_2_code (14 : Nat) (Option.some Jvm.ClassFile.FieldType.int), Jvm.Cond.code ({ cls := "java/lang/Math", name := "abs", desc := "(I)I" } : Jvm.MethodName) jdk_29_method_59_code (1 : Nat) (Option.some Jvm.ClassFile.FieldType.int), Jvm.Cond.code ({ cls := "java/lang/Math", name := "min", desc := "(II)I" } : Jvm.MethodName) jdk_29_method_69_code (2 : Nat) (Option.some Jvm.ClassFile.FieldType.int), Jvm.Cond.code ({ cls := "java/lang/Math", name := "max", desc := "(II)I" } : Jvm.MethodName) jdk_29_method_65_code (2 : Nat) (Option.some Jvm.ClassFile.FieldType.int), Jvm.Cond.code ({ cls := "com/example/keen_guess/keenguess/edit/EditDistance", name := "swap", desc := "([I[IIII[[I)I" } : Jvm.MethodName) prog_31_method_3_code (9 : Nat) (Option.some Jvm.ClassFile.FieldType.int), Jvm.Cond.code ({ cls := "com/example/keen_guess/keenguess/edit/EditDistance", name := "lastBefore", desc := "([IIII)I" } : Jvm.MethodName) prog_31_method_4_code (5 : Nat) (Option.some Jvm.ClassFile.FieldType.int)]
set_option maxRecDepth 65536 in
theorem codes_eq : words1.filter isCode = codes1 := rfl
theorem w_codes : ∀ c ∈ words1.filter isCode, c.before args0 about1 = true := by
  rw [codes_eq]
  intro c hc
  simp only [codes1, List.mem_cons, List.not_mem_nil, or_false] at hc
  rcases hc with rfl | rfl | rfl | rfl | rfl | rfl | rfl | rfl | rfl
  · exact w_c0
  · exact w_c1
  · exact w_c2
  · exact w_c3
  · exact w_c4
  · exact w_c5
  · exact w_c6
  · exact w_c7
  · exact w_c8
set_option maxRecDepth 65536 in
theorem w_t1 : (words1.take 24).all (fun c => isCode c || c.before args0 about1) = true := by decide +kernel
set_option maxRecDepth 65536 in
theorem w_t2 : (words1.drop 24).all (fun c => isCode c || c.before args0 about1) = true := by decide +kernel
theorem w_tables : (allAtoms (Jvm.Cond.code x code maxLocals ret :: tables_1)).before args0 about1 = true := by
  rw [allAtoms_all]
  show words1.all (fun c => c.before args0 about1) = true
  refine all_split ?_ w_codes
  rw [← List.take_append_drop 24 words1, List.all_append, w_t1, w_t2]
  rfl
set_option maxRecDepth 65536 in
theorem w_case : (Jvm.Cond.and given_1 narrow_1).before args0 about1 = true := by decide +kernel
theorem w_applies : (headSpec (Jvm.Cond.code x code maxLocals ret :: tables_1) room_1).applies x e0.platform about1 = true :=
  (Spec.applies_iff w_frames).mpr ⟨w_running, w_runnable, w_alone, w_named, w_hears, w_ripe, w_room, w_tables⟩
theorem atStart : AtStart classFile x code maxLocals ret World_1 tables_1 room_1 Calls_1 rest_1 Pre_1 launch0 p0 e0 about1 theMethod args0 below0 :=
  ⟨lists_1, trivial, launch0.admits_env _ _ _, launch0.least_env, fairChoices_fair.cas, fairChoices_fair.clock, w_frames, w_args, w_heap, w_applies, trivial, trivial, w_case⟩
end start1
theorem witness_1 : WitnessClaimed_1 := ⟨start1.p0, start1.e0, start1.about1, start1.theMethod, start1.args0, start1.below0, start1.atStart⟩
end Jvm.Pilot.@@N@@
