import JvmDerived
import JvmDerived.Pilot.@@N@@Statement
import JvmDerived.Pilot.@@N@@Code
set_option linter.unusedVariables false
set_option linter.unusedSimpArgs false
namespace Jvm.Free.XS
/-- lcmp's int; iushr's int -/
def cmpL (x y : Int64) : Int32 := if x > y then 1 else if x = y then 0 else -1
def ushr (x y : Int32) : Int32 := (x.toUInt32 >>> (y &&& 31).toUInt32).toInt32
end Jvm.Free.XS
@@BLOCK:NumsL.lean.txt@@
namespace Jvm.RoadKit
open Sem ClassFile Op Lib Jvm.Stand Jvm.Free Jvm.LawKit
section Going
variable {p : Program} {l : Launch} {e : Env} {R : Room} {s : State} {m : MethodId} {args : Array Value} {below : List Frame} {meth : Method} {c : Code} {T T' : State} {locs : List Loc} {cells slots : Nat} {K N : Nat} {Q : Option Value → Heap → List Loc → Prop} {F : Option Value → State → Prop} {g g' : JFrame} {Z : State} {a0 : Array Value} {h : Heap}
/-- from this frame the run comes to the method's return, with what F says of the value and the end -/
def Go (p : Program) (e : Env) (below : List Frame) (F : Option Value → State → Prop) (T : State) (g : JFrame) : Prop :=
  ∃ s₂ o, Steps p.tables e below (T.setTop g) s₂ ∧ s₂.status = .running ∧ Ended s₂ below o ∧ ∃ v, o = .returned v ∧ F v s₂
/-- what is said of an end: Q of the value, the heap and the places written; and the frame -/
def GoEnd (s : State) (K N : Nat) (Q : Option Value → Heap → List Loc → Prop) (v : Option Value) (t : State) : Prop := ∃ L, Q v t.heap L ∧ FrameEnd s (.returned v) t L K N
theorem Go.of (q : ∀ t, Steps p.tables e below (T'.setTop g') t → Steps p.tables e below (T.setTop g) t) (k : Go p e below F T' g') : Go p e below F T g := by
  obtain ⟨s₂, o, h1, r⟩ := k; exact ⟨s₂, o, q _ h1, r⟩
theorem Go.via (q : Steps p.tables e below (T.setTop g) (T'.setTop g')) (k : Go p e below F T' g') : Go p e below F T g := Go.of (fun _ r => q.trans r) k
theorem Go.cast (q : g = g') (k : Go p e below F T g') : Go p e below F T g := q ▸ k
/-- a body's contract out of its walk -/
theorem goBody {y : MethodName} {bytes : ByteArray} {maxL : Nat} {ret : Option FieldType} {ws : List Cond} {rm : Room} {as' : Array Value} (hp : plainFor y = true)
    (body : ∀ p e s m below meth c s₁, p.tables.exec = Jvm.exec → Z.Warmed39 s.vm → c.code = bytes → c.maxLocals = maxL → s.vm.findClass y.cls = some m.cls → meth.name = y.name → meth.sig.returnType = ret → meth.locks = false →
      Stand p l e rm s m as' below meth c s₁ [] 0 0 → s₁.heap = h → Go p e below (GoEnd s rm.cells rm.slots Q) s₁ (entryFrame m as' maxL)) :
    MetFree l y (head1 (Cond.code y bytes maxL ret :: ws) rm) (fun a U => a = as' ∧ Z.Warmed39 U.vm ∧ U.heap = h) (fun _ _ _ _ _ => True) (fun _ U o U' => ∃ v L, o = .returned v ∧ Q v U'.heap L ∧ FrameEnd U o U' L rm.cells rm.slots) := by
  refine MetFree.of_bodySF hp hisR ?_
  intro p e s m args below meth c s₁ Bd hml hP hK
  obtain ⟨rfl, hZ, hh⟩ := hP
  obtain ⟨s₂, o, h1, h2, h3, v, rfl, L, h4, h5⟩ := body p e s m below meth c s₁ Bd.exec hZ Bd.bytes hml (findClass_of_methodNamed Bd.named) (name_of_methodNamed Bd.named Bd.method).1 Bd.returns Bd.notSynchronized (Stand.of_body Bd) (by rw [← hh, Bd.state]; rfl)
  exact ⟨s₂, _, h1, h2, h3, v, L, rfl, h4, h5⟩
theorem Go.retI (X : Stand p l e R s m args below meth c T locs cells slots) (hx : p.tables.exec = Jvm.exec) (hlk : meth.locks = false) {pc : Nat} {Ls : Array Slot} {z : Int32} {rest : List Value} (hret : meth.sig.returnType = some .int) (hd : decode c.code pc = .ok (.ireturn, 1)) (hK : cells ≤ K) (hN : slots ≤ N) (hq : Q (some (.int z)) T.heap locs) : Go p e below (GoEnd s K N Q) T (mkF m pc Ls (.int z :: rest)) := by
  obtain ⟨fs, hr, hrun, hended, hW, hsame⟩ := X.leave (v := some (.int z)) (fun h => by rw [hret] at h; cases h) hlk
  exact ⟨_, _, retOut X hx (t := .int) (i := .ireturn) hret rfl (Or.inl ⟨rfl, Or.inl rfl, z, rfl⟩) hd hr, hrun, hended, _, rfl, _, hq, ⟨_, rfl⟩, hW, hsame.mono hK hN⟩
theorem Go.retN (X : Stand p l e R s m args below meth c T locs cells slots) (hx : p.tables.exec = Jvm.exec) (hlk : meth.locks = false) {pc : Nat} {Ls : Array Slot} {z : Int32} {t : FieldType} {rest : List Value} (hret : meth.sig.returnType = some t) (ht : t = .boolean ∨ t = .byte ∨ t = .char ∨ t = .short) (hd : decode c.code pc = .ok (.ireturn, 1)) (hK : cells ≤ K) (hN : slots ≤ N) (hq : Q (some (.int (nar t z))) T.heap locs) : Go p e below (GoEnd s K N Q) T (mkF m pc Ls (.int z :: rest)) := by
  obtain ⟨fs, hr, hrun, hended, hW, hsame⟩ := X.leave (v := some (.int (nar t z))) (fun h => by rw [hret] at h; cases h) hlk
  exact ⟨_, _, Jvm.RoadKit.retN X hx (t := t) hret ht hd hr, hrun, hended, _, rfl, _, hq, ⟨_, rfl⟩, hW, hsame.mono hK hN⟩
theorem Go.retJ (X : Stand p l e R s m args below meth c T locs cells slots) (hx : p.tables.exec = Jvm.exec) (hlk : meth.locks = false) {pc : Nat} {Ls : Array Slot} {z : Int64} {rest : List Value} (hret : meth.sig.returnType = some .long) (hd : decode c.code pc = .ok (.lreturn, 1)) (hK : cells ≤ K) (hN : slots ≤ N) (hq : Q (some (.long z)) T.heap locs) : Go p e below (GoEnd s K N Q) T (mkF m pc Ls (.long z :: rest)) := by
  obtain ⟨fs, hr, hrun, hended, hW, hsame⟩ := X.leave (v := some (.long z)) (fun h => by rw [hret] at h; cases h) hlk
  exact ⟨_, _, retOut X hx (t := .long) (i := .lreturn) hret rfl (Or.inr (Or.inl ⟨rfl, rfl, z, rfl⟩)) hd hr, hrun, hended, _, rfl, _, hq, ⟨_, rfl⟩, hW, hsame.mono hK hN⟩
theorem Go.retD (X : Stand p l e R s m args below meth c T locs cells slots) (hx : p.tables.exec = Jvm.exec) (hlk : meth.locks = false) {pc : Nat} {Ls : Array Slot} {z : UInt64} {rest : List Value} (hret : meth.sig.returnType = some .double) (hd : decode c.code pc = .ok (.dreturn, 1)) (hK : cells ≤ K) (hN : slots ≤ N) (hq : Q (some (.double z)) T.heap locs) : Go p e below (GoEnd s K N Q) T (mkF m pc Ls (.double z :: rest)) := by
  obtain ⟨fs, hr, hrun, hended, hW, hsame⟩ := X.leave (v := some (.double z)) (fun h => by rw [hret] at h; cases h) hlk
  exact ⟨_, _, retOut X hx (t := .double) (i := .dreturn) hret rfl (Or.inr (Or.inr (Or.inl ⟨rfl, rfl, z, rfl⟩))) hd hr, hrun, hended, _, rfl, _, hq, ⟨_, rfl⟩, hW, hsame.mono hK hN⟩
theorem Go.retA (X : Stand p l e R s m args below meth c T locs cells slots) (hx : p.tables.exec = Jvm.exec) (hlk : meth.locks = false) {pc : Nat} {Ls : Array Slot} {v : Value} {t : FieldType} {rest : List Value} (hret : meth.sig.returnType = some t) (ht : t.isReference = true) (hv : v.isRef = true) (hn : narrow t v = v) (hd : decode c.code pc = .ok (.areturn, 1)) (hK : cells ≤ K) (hN : slots ≤ N) (hq : Q (some v) T.heap locs) : Go p e below (GoEnd s K N Q) T (mkF m pc Ls (v :: rest)) := by
  obtain ⟨fs, hr, hrun, hended, hW, hsame⟩ := X.leave (v := some v) (fun h => by rw [hret] at h; cases h) hlk
  exact ⟨_, _, retOut X hx (t := t) (i := .areturn) hret hn (Or.inr (Or.inr (Or.inr (Or.inr ⟨rfl, ht, hv⟩)))) hd hr, hrun, hended, _, rfl, _, hq, ⟨_, rfl⟩, hW, hsame.mono hK hN⟩
theorem Go.retV (X : Stand p l e R s m args below meth c T locs cells slots) (hx : p.tables.exec = Jvm.exec) (hlk : meth.locks = false) {pc : Nat} {Ls : Array Slot} (hret : meth.sig.returnType = none) (hd : decode c.code pc = .ok (.return_, 1)) (hK : cells ≤ K) (hN : slots ≤ N) (hq : Q none T.heap locs) : Go p e below (GoEnd s K N Q) T (mkF m pc Ls []) := by
  obtain ⟨fs, hr, hrun, hended, hW, hsame⟩ := X.leave (v := none) (fun _ => rfl) hlk
  exact ⟨_, _, X.returnOut hx hret hd hr, hrun, hended, _, rfl, _, hq, ⟨_, rfl⟩, hW, hsame.mono hK hN⟩
/-- what a callee that writes and makes nothing leaves -/
def PQ (h : Heap) (r : Option Value) (v : Option Value) (h' : Heap) (L : List Loc) : Prop := v = r ∧ L = [] ∧ h' = h
/-- a contract in the form in which a call takes it -/
abbrev MetAt (l : Launch) (Z : State) (y : MethodName) (bytes : ByteArray) (maxL : Nat) (ret : Option FieldType) (rm : Room) (as' : Array Value) (h : Heap) (Q : Option Value → Heap → List Loc → Prop) : Prop :=
  MetFree l y (head1 [Cond.code y bytes maxL ret] rm) (fun a U => a = as' ∧ Z.Warmed39 U.vm ∧ U.heap = h) (fun _ _ _ _ _ => True) (fun _ U o U' => ∃ v L, o = .returned v ∧ Q v U'.heap L ∧ FrameEnd U o U' L rm.cells rm.slots)
variable {own : String} {index : Nat} {y z : MethodName} {bytes : ByteArray} {maxL W pc : Nat} {ret : Option FieldType} {rm : Room} {Qc : Option Value → Heap → List Loc → Prop} {argsL rest st : List Value} {Ls : Array Slot}
theorem Go.callS (X : Stand p l e R s m args below meth c T locs cells slots) (hx : p.tables.exec = Jvm.exec) (hZ : Z.Warmed39 s.vm) (hown : s.vm.findClass own = some m.cls)
    (wl : (Cond.methodLink own index y).before a0 Z = true) (ws : (Cond.static y).before a0 Z = true) (wz : (Cond.initialized y.cls).before a0 Z = true) (wc : (Cond.code y bytes maxL ret).before a0 Z = true)
    (hy : y.cls ≠ "java/lang/invoke/MethodHandle" ∧ y.cls ≠ "java/lang/invoke/VarHandle") (hM : MetAt l Z y bytes maxL ret rm argsL.toArray h Qc) (eT : T.heap = h) (hsize : Ls.size = c.maxLocals)
    (hlen : ∀ sig, parseMethodDescriptor y.desc = some sig → argsL.length = sig.parameters.length) (hd : decode c.code pc = .ok (.invokestatic index, 3)) (hst : st = argsL.reverse ++ rest)
    (hW : (rest.map fun v => v.category).sum ≤ W) (hf : rm.frames + 1 ≤ R.frames) (hl : W + (maxL + 11) + rm.locals ≤ R.locals) (hc : cells + rm.cells ≤ R.cells) (hs : slots + rm.slots ≤ R.slots)
    (k : ∀ v T' L', Stand p l e R s m args below meth c T' (locs ++ L') (cells + rm.cells) (slots + rm.slots) → Qc v T'.heap L' → Go p e below F T' (mkF m (pc + 3) Ls (v.toList ++ rest))) : Go p e below F T (mkF m pc Ls st) := by
  obtain ⟨v, vm₁, ⟨T', L', k', n'⟩, -, X', ⟨Lc, hQ, l1, y1, z1⟩, stp⟩ := Jvm.LawKit.callS X hx hown (mvT hZ wl) (mvT hZ ws) (mvT hZ wz) (mvT hZ wc) hy (backOf (W := W) hM hZ wc wz hf hl) (g := mkF m pc Ls st) rfl hsize hlen hst (by show 2 * 0 + _ ≤ _; omega) hd (fun _ _ => ⟨rfl, eT, hc, hs⟩)
  dsimp only [Pt.U, Pt.locs, Pt.cells, Pt.slots] at X' l1 y1 z1 stp hQ
  subst l1 y1 z1
  exact Go.of stp (k v T' Lc X' hQ)
theorem Go.callSP (X : Stand p l e R s m args below meth c T locs cells slots) (hx : p.tables.exec = Jvm.exec) (hZ : Z.Warmed39 s.vm) (hown : s.vm.findClass own = some m.cls)
    (wl : (Cond.methodLink own index y).before a0 Z = true) (ws : (Cond.static y).before a0 Z = true) (wz : (Cond.initialized y.cls).before a0 Z = true) (wc : (Cond.code y bytes maxL ret).before a0 Z = true)
    (hy : y.cls ≠ "java/lang/invoke/MethodHandle" ∧ y.cls ≠ "java/lang/invoke/VarHandle") {r : Option Value} {fr lo : Nat} (hM : MetAt l Z y bytes maxL ret { frames := fr, cells := 0, slots := 0, locals := lo } argsL.toArray h (PQ h r)) (eT : T.heap = h) (hsize : Ls.size = c.maxLocals)
    (hlen : ∀ sig, parseMethodDescriptor y.desc = some sig → argsL.length = sig.parameters.length) (hd : decode c.code pc = .ok (.invokestatic index, 3)) (hst : st = argsL.reverse ++ rest)
    (hW : (rest.map fun v => v.category).sum ≤ W) (hf : fr + 1 ≤ R.frames) (hl : W + (maxL + 11) + lo ≤ R.locals) (hc : cells ≤ R.cells) (hs : slots ≤ R.slots)
    (k : ∀ T', Stand p l e R s m args below meth c T' locs cells slots → T'.heap = h → Go p e below F T' (mkF m (pc + 3) Ls (r.toList ++ rest))) : Go p e below F T (mkF m pc Ls st) := by
  refine Go.callS X hx hZ hown wl ws wz wc hy hM eT hsize hlen hd hst hW hf hl hc hs fun v T' L' X' q => ?_
  obtain ⟨rfl, rfl, e'⟩ := q
  rw [List.append_nil] at X'
  exact k T' X' e'
theorem Go.callI (X : Stand p l e R s m args below meth c T locs cells slots) (hx : p.tables.exec = Jvm.exec) (hZ : Z.Warmed39 s.vm) (hy1 : y.name = "<init>") (hown : s.vm.findClass own = some m.cls)
    (wl : (Cond.methodLink own index y).before a0 Z = true) (wi : (Cond.instanceMethod y).before a0 Z = true) (wz : (Cond.initialized y.cls).before a0 Z = true) (wc : (Cond.code y bytes maxL none).before a0 Z = true)
    (hy : y.cls ≠ "java/lang/invoke/MethodHandle" ∧ y.cls ≠ "java/lang/invoke/VarHandle") {a : Addr} (hM : MetAt l Z y bytes maxL none rm (.ref a :: argsL).toArray h Qc) (eT : T.heap = h) (hsize : Ls.size = c.maxLocals)
    (hlen : ∀ sig, parseMethodDescriptor y.desc = some sig → argsL.length = sig.parameters.length) (hd : decode c.code pc = .ok (.invokespecial index, 3)) (hst : st = argsL.reverse ++ .ref a :: rest)
    (hW : (rest.map fun v => v.category).sum ≤ W) (hf : rm.frames + 1 ≤ R.frames) (hl : W + (maxL + 11) + rm.locals ≤ R.locals) (hc : cells + rm.cells ≤ R.cells) (hs : slots + rm.slots ≤ R.slots)
    (k : ∀ v T' L', Stand p l e R s m args below meth c T' (locs ++ L') (cells + rm.cells) (slots + rm.slots) → Qc v T'.heap L' → Go p e below F T' (mkF m (pc + 3) Ls (v.toList ++ rest))) : Go p e below F T (mkF m pc Ls st) := by
  obtain ⟨v, vm₁, ⟨T', L', k', n'⟩, -, X', ⟨Lc, hQ, l1, y1, z1⟩, stp⟩ := X.specialBack hx hy1 hown (mvT hZ wl) (mvT hZ wi) (mvT hZ wc) hy (backOf (W := W) hM hZ wc wz hf hl) (g := mkF m pc Ls st) rfl hsize (Steps.refl _) (a := a) hlen hst (by show 2 * 0 + _ ≤ _; omega) hd (fun _ _ => ⟨rfl, eT, hc, hs⟩)
  dsimp only [Pt.U, Pt.locs, Pt.cells, Pt.slots] at X' l1 y1 z1 stp hQ
  subst l1 y1 z1
  exact Go.via stp (k v T' Lc X' hQ)
theorem Go.callV (X : Stand p l e R s m args below meth c T locs cells slots) (hx : p.tables.exec = Jvm.exec) (hZ : Z.Warmed39 s.vm) (hown : s.vm.findClass own = some m.cls) {C : String}
    (wl : (Cond.methodLink own index y).before a0 Z = true) (wd : (Cond.declares y).before a0 Z = true) (hnf : NotFace s y) (wse : (Cond.selects C y z).before a0 Z = true) (wi : (Cond.instanceMethod z).before a0 Z = true) (wz : (Cond.initialized z.cls).before a0 Z = true) (wc : (Cond.code z bytes maxL ret).before a0 Z = true)
    (hy : y.cls ≠ "java/lang/invoke/MethodHandle" ∧ y.cls ≠ "java/lang/invoke/VarHandle") {a : Addr} (hM : MetAt l Z z bytes maxL ret rm (.ref a :: argsL).toArray h Qc) (eT : T.heap = h) (hE : Exa Z h a C) (hsize : Ls.size = c.maxLocals)
    (hlen : ∀ sig, parseMethodDescriptor y.desc = some sig → argsL.length = sig.parameters.length) (hd : decode c.code pc = .ok (.invokevirtual index, 3)) (hst : st = argsL.reverse ++ .ref a :: rest)
    (hW : (rest.map fun v => v.category).sum ≤ W) (hf : rm.frames + 1 ≤ R.frames) (hl : W + (maxL + 11) + rm.locals ≤ R.locals) (hc : cells + rm.cells ≤ R.cells) (hs : slots + rm.slots ≤ R.slots)
    (k : ∀ v T' L', Stand p l e R s m args below meth c T' (locs ++ L') (cells + rm.cells) (slots + rm.slots) → Qc v T'.heap L' → Go p e below F T' (mkF m (pc + 3) Ls (v.toList ++ rest))) : Go p e below F T (mkF m pc Ls st) := by
  obtain ⟨cq, kq, q1, q2, q3⟩ := isOf hZ eT hE
  obtain ⟨v, vm₁, ⟨T', L', k', n'⟩, -, X', ⟨Lc, hQ, l1, y1, z1⟩, stp⟩ := X.virtualBack hx (y := y) (z := z) hown (mvT hZ wl) (mvT hZ wd) hnf (mvT hZ wse) (mvT hZ wi) hy (backOf (W := W) hM hZ wc wz hf hl) q1 q3 (g := mkF m pc Ls st) rfl hsize (Steps.refl _) hlen hst (by show 2 * 0 + _ ≤ _; omega) hd (fun _ _ => ⟨rfl, eT, hc, hs⟩)
  dsimp only [Pt.U, Pt.locs, Pt.cells, Pt.slots] at X' l1 y1 z1 stp hQ
  subst l1 y1 z1
  exact Go.via stp (k v T' Lc X' hQ)
theorem Go.callVP (X : Stand p l e R s m args below meth c T locs cells slots) (hx : p.tables.exec = Jvm.exec) (hZ : Z.Warmed39 s.vm) (hown : s.vm.findClass own = some m.cls) {C : String}
    (wl : (Cond.methodLink own index y).before a0 Z = true) (wd : (Cond.declares y).before a0 Z = true) (hnf : NotFace s y) (wse : (Cond.selects C y z).before a0 Z = true) (wi : (Cond.instanceMethod z).before a0 Z = true) (wz : (Cond.initialized z.cls).before a0 Z = true) (wc : (Cond.code z bytes maxL ret).before a0 Z = true)
    (hy : y.cls ≠ "java/lang/invoke/MethodHandle" ∧ y.cls ≠ "java/lang/invoke/VarHandle") {a : Addr} {r : Option Value} {fr lo : Nat} (hM : MetAt l Z z bytes maxL ret { frames := fr, cells := 0, slots := 0, locals := lo } (.ref a :: argsL).toArray h (PQ h r)) (eT : T.heap = h) (hE : Exa Z h a C) (hsize : Ls.size = c.maxLocals)
    (hlen : ∀ sig, parseMethodDescriptor y.desc = some sig → argsL.length = sig.parameters.length) (hd : decode c.code pc = .ok (.invokevirtual index, 3)) (hst : st = argsL.reverse ++ .ref a :: rest)
    (hW : (rest.map fun v => v.category).sum ≤ W) (hf : fr + 1 ≤ R.frames) (hl : W + (maxL + 11) + lo ≤ R.locals) (hc : cells ≤ R.cells) (hs : slots ≤ R.slots)
    (k : ∀ T', Stand p l e R s m args below meth c T' locs cells slots → T'.heap = h → Go p e below F T' (mkF m (pc + 3) Ls (r.toList ++ rest))) : Go p e below F T (mkF m pc Ls st) := by
  refine Go.callV X hx hZ hown wl wd hnf wse wi wz wc hy hM eT hE hsize hlen hd hst hW hf hl hc hs fun v T' L' X' q => ?_
  obtain ⟨rfl, rfl, e'⟩ := q
  rw [List.append_nil] at X'
  exact k T' X' e'
theorem Go.callIP (X : Stand p l e R s m args below meth c T locs cells slots) (hx : p.tables.exec = Jvm.exec) (hZ : Z.Warmed39 s.vm) (hy1 : y.name = "<init>") (hown : s.vm.findClass own = some m.cls)
    (wl : (Cond.methodLink own index y).before a0 Z = true) (wi : (Cond.instanceMethod y).before a0 Z = true) (wz : (Cond.initialized y.cls).before a0 Z = true) (wc : (Cond.code y bytes maxL none).before a0 Z = true)
    (hy : y.cls ≠ "java/lang/invoke/MethodHandle" ∧ y.cls ≠ "java/lang/invoke/VarHandle") {a : Addr} {fr lo : Nat} (hM : MetAt l Z y bytes maxL none { frames := fr, cells := 0, slots := 0, locals := lo } (.ref a :: argsL).toArray h (PQ h none)) (eT : T.heap = h) (hsize : Ls.size = c.maxLocals)
    (hlen : ∀ sig, parseMethodDescriptor y.desc = some sig → argsL.length = sig.parameters.length) (hd : decode c.code pc = .ok (.invokespecial index, 3)) (hst : st = argsL.reverse ++ .ref a :: rest)
    (hW : (rest.map fun v => v.category).sum ≤ W) (hf : fr + 1 ≤ R.frames) (hl : W + (maxL + 11) + lo ≤ R.locals) (hc : cells ≤ R.cells) (hs : slots ≤ R.slots)
    (k : ∀ T', Stand p l e R s m args below meth c T' locs cells slots → T'.heap = h → Go p e below F T' (mkF m (pc + 3) Ls rest)) : Go p e below F T (mkF m pc Ls st) := by
  refine Go.callI X hx hZ hy1 hown wl wi wz wc hy hM eT hsize hlen hd hst hW hf hl hc hs fun v T' L' X' q => ?_
  obtain ⟨rfl, rfl, e'⟩ := q
  rw [List.append_nil] at X'
  exact k T' X' e'
end Going
end Jvm.RoadKit
namespace Jvm.RoadKit
open Sem ClassFile Op Lib Jvm.Stand Jvm.Free Jvm.LawKit
section Heaping
variable {p : Program} {l : Launch} {e : Env} {R : Room} {s : State} {m : MethodId} {args : Array Value} {below : List Frame} {meth : Method} {c : Code} {T : State} {locs : List Loc} {cells slots : Nat} {Fi : Option Value → State → Prop} {Z : State} {a0 : Array Value} {h : Heap} {a : Addr} {k : ClassId} {ty : FieldType} {z j x : Int32} {vs rest st : List Value} {dv v : Value} {pc : Nat} {Ls : Array Slot} {own C O n d host : String} {index nn : Nat}
theorem Arv.load (F : Arv Z h a k ty z vs dv) (hj : ¬ j < 0 ∧ j < z) : ∃ cl, Arr Z h a cl ty ∧ ¬ (j < 0 ∨ cl.slots.size ≤ j.toNatClampNeg) ∧ cl.slots[j.toNatClampNeg]? = some (vs.getD j.toNatClampNeg dv) := by
  obtain ⟨cl, A, -, S, -, H, -⟩ := F
  exact ⟨cl, A, inb_of S hj, H.at (inb_of S hj) rfl⟩
theorem Go.iaload (X : Stand p l e R s m args below meth c T locs cells slots) (hx : p.tables.exec = Jvm.exec) (hZ : Z.Warmed39 s.vm) (eT : T.heap = h) (F : Arv Z h a k .int z vs dv) (hj : ¬ j < 0 ∧ j < z) (hv : vs.getD j.toNatClampNeg dv = v) (hd : decode c.code pc = .ok (.iaload, 1)) (kk : Go p e below Fi T (mkF m (pc + 1) Ls (v :: rest))) : Go p e below Fi T (mkF m pc Ls (.int j :: .ref a :: rest)) := by
  obtain ⟨cl, A, i1, i2⟩ := F.load hj
  rw [hv] at i2
  exact Go.of (fun t q => X.iaload hx (by rw [eT]; exact A.1) (State.isArrayOf_alike hZ.alike A.2.1) A.2.2 i1 i2 (g := mkF m pc Ls (.int j :: .ref a :: rest)) rfl rfl hd t q) kk
theorem Go.laload (X : Stand p l e R s m args below meth c T locs cells slots) (hx : p.tables.exec = Jvm.exec) (hZ : Z.Warmed39 s.vm) (eT : T.heap = h) (F : Arv Z h a k .long z vs dv) (hj : ¬ j < 0 ∧ j < z) (hv : vs.getD j.toNatClampNeg dv = v) (hd : decode c.code pc = .ok (.laload, 1)) (kk : Go p e below Fi T (mkF m (pc + 1) Ls (v :: rest))) : Go p e below Fi T (mkF m pc Ls (.int j :: .ref a :: rest)) := by
  obtain ⟨cl, A, i1, i2⟩ := F.load hj
  rw [hv] at i2
  exact Go.of (fun t q => X.laload hx (by rw [eT]; exact A.1) (State.isArrayOf_alike hZ.alike A.2.1) A.2.2 i1 i2 (g := mkF m pc Ls (.int j :: .ref a :: rest)) rfl rfl hd t q) kk
theorem Go.baload (X : Stand p l e R s m args below meth c T locs cells slots) (hx : p.tables.exec = Jvm.exec) (hZ : Z.Warmed39 s.vm) (eT : T.heap = h) (F : Arv Z h a k .byte z vs dv) (hj : ¬ j < 0 ∧ j < z) (hv : vs.getD j.toNatClampNeg dv = v) (hd : decode c.code pc = .ok (.baload, 1)) (kk : Go p e below Fi T (mkF m (pc + 1) Ls (v :: rest))) : Go p e below Fi T (mkF m pc Ls (.int j :: .ref a :: rest)) := by
  obtain ⟨cl, A, i1, i2⟩ := F.load hj
  rw [hv] at i2
  exact Go.of (fun t q => X.baloadBytes hx (by rw [eT]; exact A.1) (State.isArrayOf_alike hZ.alike A.2.1) A.2.2 i1 i2 (g := mkF m pc Ls (.int j :: .ref a :: rest)) rfl rfl hd t q) kk
theorem Go.caload (X : Stand p l e R s m args below meth c T locs cells slots) (hx : p.tables.exec = Jvm.exec) (hZ : Z.Warmed39 s.vm) (eT : T.heap = h) (F : Arv Z h a k .char z vs dv) (hj : ¬ j < 0 ∧ j < z) (hv : vs.getD j.toNatClampNeg dv = v) (hd : decode c.code pc = .ok (.caload, 1)) (kk : Go p e below Fi T (mkF m (pc + 1) Ls (v :: rest))) : Go p e below Fi T (mkF m pc Ls (.int j :: .ref a :: rest)) := by
  obtain ⟨cl, A, i1, i2⟩ := F.load hj
  rw [hv] at i2
  exact Go.of (fun t q => X.caload hx (by rw [eT]; exact A.1) (State.isArrayOf_alike hZ.alike A.2.1) A.2.2 i1 i2 (g := mkF m pc Ls (.int j :: .ref a :: rest)) rfl rfl hd t q) kk
theorem Go.aaload (X : Stand p l e R s m args below meth c T locs cells slots) (hx : p.tables.exec = Jvm.exec) (hZ : Z.Warmed39 s.vm) (eT : T.heap = h) (F : Arv Z h a k ty z vs dv) (hty : ty.isReference = true) (hj : ¬ j < 0 ∧ j < z) (hv : vs.getD j.toNatClampNeg dv = v) (hd : decode c.code pc = .ok (.aaload, 1)) (kk : Go p e below Fi T (mkF m (pc + 1) Ls (v :: rest))) : Go p e below Fi T (mkF m pc Ls (.int j :: .ref a :: rest)) := by
  obtain ⟨cl, A, i1, i2⟩ := F.load hj
  rw [hv] at i2
  exact Go.of (fun t q => X.aaload hx (by rw [eT]; exact A.1) (State.isArrayOf_alike hZ.alike A.2.1) hty A.2.2 i1 i2 (g := mkF m pc Ls (.int j :: .ref a :: rest)) rfl rfl hd t q) kk
theorem Go.daload (X : Stand p l e R s m args below meth c T locs cells slots) (hx : p.tables.exec = Jvm.exec) (hZ : Z.Warmed39 s.vm) (eT : T.heap = h) (F : Arv Z h a k .double z vs dv) (hj : ¬ j < 0 ∧ j < z) (hv : vs.getD j.toNatClampNeg dv = v) (hd : decode c.code pc = .ok (.daload, 1)) (kk : Go p e below Fi T (mkF m (pc + 1) Ls (v :: rest))) : Go p e below Fi T (mkF m pc Ls (.int j :: .ref a :: rest)) := by
  obtain ⟨cl, A, i1, i2⟩ := F.load hj
  rw [hv] at i2
  exact Go.of (fun t q => X.daload hx (by rw [eT]; exact A.1) (State.isArrayOf_alike hZ.alike A.2.1) A.2.2 i1 i2 (g := mkF m pc Ls (.int j :: .ref a :: rest)) rfl rfl hd t q) kk
theorem Go.dastore {x : UInt64} (X : Stand p l e R s m args below meth c T locs cells slots) (hx : p.tables.exec = Jvm.exec) (hZ : Z.Warmed39 s.vm) (eT : T.heap = h) (F : Arv Z h a k .double z vs dv) (hj : ¬ j < 0 ∧ j < z) (i : Nat) (hji : j.toNatClampNeg = i) (hi : i < vs.length) (hd : decode c.code pc = .ok (.dastore, 1))
    (kk : ∀ T' h', Stand p l e R s m args below meth c T' (locs ++ [⟨a, i⟩]) cells slots → T'.heap = h' → Wr h h' a i (.double x) → Arv Z h' a k .double z (vs.set i (.double x)) dv → Go p e below Fi T' (mkF m (pc + 1) Ls rest)) : Go p e below Fi T (mkF m pc Ls (.double x :: .int j :: .ref a :: rest)) := by
  obtain ⟨cl, A, q, S, M, H, G⟩ := F
  subst hji
  obtain ⟨T', h', X', e', W', st⟩ := stD X hx hZ eT A (inb_of S hj) (g := mkF m pc Ls (.double x :: .int j :: .ref a :: rest)) rfl rfl hd
  exact Go.of st (kk T' h' X' e' W' (Arv.set A q S M H G rfl W' _ rfl hi))
theorem Go.len (X : Stand p l e R s m args below meth c T locs cells slots) (hx : p.tables.exec = Jvm.exec) (hZ : Z.Warmed39 s.vm) (eT : T.heap = h) (F : Arv Z h a k ty z vs dv) (hd : decode c.code pc = .ok (.arraylength, 1)) (kk : Go p e below Fi T (mkF m (pc + 1) Ls (.int z :: rest))) : Go p e below Fi T (mkF m pc Ls (.ref a :: rest)) := by
  obtain ⟨cl, A, -, S, M, -, -⟩ := F
  exact Go.of (fun t q => X.arraylength hx (a := a) (cell := cl) (ty := ty) (by rw [eT]; exact A.1) (State.isArrayOf_alike hZ.alike A.2.1) (g := mkF m pc Ls (.ref a :: rest)) rfl (rest := rest) rfl hd t (by rw [len_of S M]; exact q)) kk
theorem Go.iastore (X : Stand p l e R s m args below meth c T locs cells slots) (hx : p.tables.exec = Jvm.exec) (hZ : Z.Warmed39 s.vm) (eT : T.heap = h) (F : Arv Z h a k .int z vs dv) (hj : ¬ j < 0 ∧ j < z) (i : Nat) (hji : j.toNatClampNeg = i) (hi : i < vs.length) (hd : decode c.code pc = .ok (.iastore, 1))
    (kk : ∀ T' h', Stand p l e R s m args below meth c T' (locs ++ [⟨a, i⟩]) cells slots → T'.heap = h' → Wr h h' a i (.int x) → Arv Z h' a k .int z (vs.set i (.int x)) dv → Go p e below Fi T' (mkF m (pc + 1) Ls rest)) : Go p e below Fi T (mkF m pc Ls (.int x :: .int j :: .ref a :: rest)) := by
  obtain ⟨cl, A, q, S, M, H, G⟩ := F
  subst hji
  obtain ⟨T', h', X', e', W', st⟩ := stI X hx hZ eT A (inb_of S hj) (g := mkF m pc Ls (.int x :: .int j :: .ref a :: rest)) rfl rfl hd
  exact Go.of st (kk T' h' X' e' W' (Arv.set A q S M H G rfl W' _ rfl hi))
theorem Go.lastore {x : Int64} (X : Stand p l e R s m args below meth c T locs cells slots) (hx : p.tables.exec = Jvm.exec) (hZ : Z.Warmed39 s.vm) (eT : T.heap = h) (F : Arv Z h a k .long z vs dv) (hj : ¬ j < 0 ∧ j < z) (i : Nat) (hji : j.toNatClampNeg = i) (hi : i < vs.length) (hd : decode c.code pc = .ok (.lastore, 1))
    (kk : ∀ T' h', Stand p l e R s m args below meth c T' (locs ++ [⟨a, i⟩]) cells slots → T'.heap = h' → Wr h h' a i (.long x) → Arv Z h' a k .long z (vs.set i (.long x)) dv → Go p e below Fi T' (mkF m (pc + 1) Ls rest)) : Go p e below Fi T (mkF m pc Ls (.long x :: .int j :: .ref a :: rest)) := by
  obtain ⟨cl, A, q, S, M, H, G⟩ := F
  subst hji
  obtain ⟨T', h', X', e', W', st⟩ := stJ X hx hZ eT A (inb_of S hj) (g := mkF m pc Ls (.long x :: .int j :: .ref a :: rest)) rfl rfl hd
  exact Go.of st (kk T' h' X' e' W' (Arv.set A q S M H G rfl W' _ rfl hi))
theorem Go.bastore (X : Stand p l e R s m args below meth c T locs cells slots) (hx : p.tables.exec = Jvm.exec) (hZ : Z.Warmed39 s.vm) (eT : T.heap = h) (F : Arv Z h a k .byte z vs dv) (hj : ¬ j < 0 ∧ j < z) (i : Nat) (hji : j.toNatClampNeg = i) (hi : i < vs.length) (hd : decode c.code pc = .ok (.bastore, 1))
    (kk : ∀ T' h', Stand p l e R s m args below meth c T' (locs ++ [⟨a, i⟩]) cells slots → T'.heap = h' → Wr h h' a i (.int (nar .byte x)) → Arv Z h' a k .byte z (vs.set i (.int (nar .byte x))) dv → Go p e below Fi T' (mkF m (pc + 1) Ls rest)) : Go p e below Fi T (mkF m pc Ls (.int x :: .int j :: .ref a :: rest)) := by
  obtain ⟨cl, A, q, S, M, H, G⟩ := F
  subst hji
  obtain ⟨T', h', X', e', W', st⟩ := stB X hx hZ eT A (inb_of S hj) (g := mkF m pc Ls (.int x :: .int j :: .ref a :: rest)) rfl rfl hd
  exact Go.of st (kk T' h' X' e' W' (Arv.set A q S M H G (fits_nar_byte _) W' _ rfl hi))
theorem Go.castore (X : Stand p l e R s m args below meth c T locs cells slots) (hx : p.tables.exec = Jvm.exec) (hZ : Z.Warmed39 s.vm) (eT : T.heap = h) (F : Arv Z h a k .char z vs dv) (hj : ¬ j < 0 ∧ j < z) (i : Nat) (hji : j.toNatClampNeg = i) (hi : i < vs.length) (hd : decode c.code pc = .ok (.castore, 1))
    (kk : ∀ T' h', Stand p l e R s m args below meth c T' (locs ++ [⟨a, i⟩]) cells slots → T'.heap = h' → Wr h h' a i (.int (nar .char x)) → Arv Z h' a k .char z (vs.set i (.int (nar .char x))) dv → Go p e below Fi T' (mkF m (pc + 1) Ls rest)) : Go p e below Fi T (mkF m pc Ls (.int x :: .int j :: .ref a :: rest)) := by
  obtain ⟨cl, A, q, S, M, H, G⟩ := F
  subst hji
  obtain ⟨T', h', X', e', W', st⟩ := stC X hx hZ eT A (inb_of S hj) (g := mkF m pc Ls (.int x :: .int j :: .ref a :: rest)) rfl rfl hd
  exact Go.of st (kk T' h' X' e' W' (Arv.set A q S M H G (fits_nar_char _) W' _ rfl hi))
theorem Go.newarr (X : Stand p l e R s m args below meth c T locs cells slots) (hx : p.tables.exec = Jvm.exec) (hZ : Z.Warmed39 s.vm) {aty : ArrayType} (w : (Cond.arrayClass (newarray.typeOf aty)).before a0 Z = true) (eT : T.heap = h) (cap : Nat) (hn : ¬ z < 0) (hcap : z.toNatClampNeg = cap) (hb : cap * 8 ≤ 536870912) (hc : cells + 1 ≤ R.cells) (hl : slots + cap ≤ R.slots) (hd : decode c.code pc = .ok (.newarray aty, 2))
    (kk : ∀ T' h' b k, b = h.size → Stand p l e R s m args below meth c T' locs (cells + 1) (slots + cap) → T'.heap = h' → Ext h h' → Arv Z h' b k (newarray.typeOf aty) z (List.replicate cap (defaultValue (newarray.typeOf aty))) (defaultValue (newarray.typeOf aty)) → Go p e below Fi T' (mkF m (pc + 2) Ls (.ref b :: rest))) : Go p e below Fi T (mkF m pc Ls (.int z :: rest)) := by
  obtain ⟨T', h', kA, X', e', E', A', st⟩ := newP X hx hZ w eT (g := mkF m pc Ls (.int z :: rest)) rfl hd rfl hn (cap := cap) (Nat.le_of_eq hcap) hb hc hl
  exact Go.of st (kk T' h' _ kA rfl X' e' E' ((Arv.new A' hn).pad (pad_rep [] _ cap)))
theorem Go.newarrE (X : Stand p l e R s m args below meth c T locs cells slots) (hx : p.tables.exec = Jvm.exec) (hZ : Z.Warmed39 s.vm) {aty : ArrayType} {ad : String} (had : "[" ++ (newarray.typeOf aty).toString = ad) (w : (Cond.arrayClass (newarray.typeOf aty)).before a0 Z = true) (eT : T.heap = h) (cap : Nat) (hn : ¬ z < 0) (hcap : z.toNatClampNeg = cap) (hb : cap * 8 ≤ 536870912) (hc : cells + 1 ≤ R.cells) (hl : slots + cap ≤ R.slots) (hd : decode c.code pc = .ok (.newarray aty, 2))
    (kk : ∀ T' h' b k, b = h.size → Stand p l e R s m args below meth c T' locs (cells + 1) (slots + cap) → T'.heap = h' → Ext h h' → Arv Z h' b k (newarray.typeOf aty) z (List.replicate cap (defaultValue (newarray.typeOf aty))) (defaultValue (newarray.typeOf aty)) → Exa Z h' b ad → Go p e below Fi T' (mkF m (pc + 2) Ls (.ref b :: rest))) : Go p e below Fi T (mkF m pc Ls (.int z :: rest)) := by
  obtain ⟨T', h', kA, X', e', E', A', EA, st⟩ := newPE X hx hZ w eT (g := mkF m pc Ls (.int z :: rest)) rfl hd rfl hn (cap := cap) (Nat.le_of_eq hcap) hb hc hl had
  exact Go.of st (kk T' h' _ kA rfl X' e' E' ((Arv.new A' hn).pad (pad_rep [] _ cap)) EA)
theorem Go.clone (X : Stand p l e R s m args below meth c T locs cells slots) (hx : p.tables.exec = Jvm.exec) (hZ : Z.Warmed39 s.vm) {ad : String} (hown : s.vm.findClass own = some m.cls)
    (w1 : (Cond.methodLink own index ⟨ad, "clone", "()Ljava/lang/Object;"⟩).before a0 Z = true) (w2 : (Cond.sameMethod ad "java/lang/Object" "clone" "()Ljava/lang/Object;").before a0 Z = true) (w3 : (Cond.native ⟨"java/lang/Object", "clone", "()Ljava/lang/Object;"⟩).before a0 Z = true)
    (w4 : (Cond.instanceMethod ⟨"java/lang/Object", "clone", "()Ljava/lang/Object;"⟩).before a0 Z = true) (w5 : (Cond.selects ad ⟨ad, "clone", "()Ljava/lang/Object;"⟩ ⟨"java/lang/Object", "clone", "()Ljava/lang/Object;"⟩).before a0 Z = true) (w6 : (Cond.castable ad "java/lang/Cloneable").before a0 Z = true)
    (eT : T.heap = h) (F : Arv Z h a k ty z vs dv) (E : Exa Z h a ad) (hsize : Ls.size = c.maxLocals) (hd : decode c.code pc = .ok (.invokevirtual index, 3)) (hf : 1 ≤ R.frames) {W cap : Nat} (hW : (rest.map fun v => v.category).sum ≤ W) (hl : W + 14 ≤ R.locals) (hcap : z.toNatClampNeg ≤ cap) (hc : cells + 1 ≤ R.cells) (hsl : slots + cap ≤ R.slots)
    (kk : ∀ T' h' b, b = h.size → Stand p l e R s m args below meth c T' locs (cells + 1) (slots + cap) → T'.heap = h' → Ext h h' → Arv Z h' b k ty z vs dv → Exa Z h' b ad → Go p e below Fi T' (mkF m (pc + 3) Ls (.ref b :: rest))) : Go p e below Fi T (mkF m pc Ls (.ref a :: rest)) := by
  obtain ⟨cl, A, q1, S, q3, H, G⟩ := F
  have FC : FitC Z cl := fitC_of A fun i hi v hv => by rw [H i hi] at hv; cases hv; exact G i hi
  obtain ⟨T', h', X', e', ex, A', E', st⟩ := cloneA X hx hZ hown w1 w2 w3 w4 w5 w6 eT A E FC (g := mkF m pc Ls (.ref a :: rest)) rfl hsize rfl hd hf (by show 2 * 0 + _ ≤ W; omega) hl (by rw [S]; exact hcap) hc hsl
  exact Go.of st (kk T' h' _ rfl X' e' ex ⟨cloneOf cl, A', q1, S, q3, H, G⟩ E')
theorem Go.castTo (X : Stand p l e R s m args below meth c T locs cells slots) (hx : p.tables.exec = Jvm.exec) (hZ : Z.Warmed39 s.vm) (hown : s.vm.findClass own = some m.cls) {K : String} (w : (Cond.classLink own index K).before a0 Z = true) (eT : T.heap = h) (I : Ins Z h a K true) (hd : decode c.code pc = .ok (.checkcast index, 3))
    (kk : ∀ T', Stand p l e R s m args below meth c T' locs cells slots → T'.heap = h → Go p e below Fi T' (mkF m (pc + 3) Ls (.ref a :: rest))) : Go p e below Fi T (mkF m pc Ls (.ref a :: rest)) := by
  obtain ⟨T', X', e', st⟩ := castY X hx hZ hown w eT I (g := mkF m pc Ls (.ref a :: rest)) rfl rfl hd
  exact Go.of st (kk T' X' e')
theorem Go.new (X : Stand p l e R s m args below meth c T locs cells slots) (hx : p.tables.exec = Jvm.exec) (hZ : Z.Warmed39 s.vm) (hown : s.vm.findClass own = some m.cls) (w : (Cond.classLink own index C).before a0 Z = true) (wi : (Cond.instantiable C nn).before a0 Z = true) (wz : (Cond.initialized C).before a0 Z = true) (eT : T.heap = h) (hd : decode c.code pc = .ok (.new index, 3)) (hc : cells + 1 ≤ R.cells) (hl : slots + nn ≤ R.slots)
    (kk : ∀ T' h' b, b = h.size → Stand p l e R s m args below meth c T' locs (cells + 1) (slots + nn) → T'.heap = h' → Ext h h' → Exa Z h' b C → (∀ {O nm d : String} {ty : FieldType}, Laid Z a0 C O nm d → parseFieldDescriptor d = some ty → Fld Z h' b O nm d (defaultValue ty)) → Go p e below Fi T' (mkF m (pc + 3) Ls (.ref b :: st))) : Go p e below Fi T (mkF m pc Ls st) := by
  obtain ⟨T', h', X', e', E', A', D', -, stp⟩ := newO X hx hZ hown w wi wz eT (g := mkF m pc Ls st) rfl hd hc hl
  exact Go.of stp (kk T' h' _ rfl X' e' E' A' D')
theorem Go.getf (X : Stand p l e R s m args below meth c T locs cells slots) (hx : p.tables.exec = Jvm.exec) (hZ : Z.Warmed39 s.vm) (hown : s.vm.findClass own = some m.cls) {R0 : String} (w : (Cond.fieldLink own index R0 n d).before a0 Z = true) (via : Via Z R0 O n d) (eT : T.heap = h) (F : Fld Z h a O n d v) (hd : decode c.code pc = .ok (.getfield index, 3))
    (kk : ∀ T', Stand p l e R s m args below meth c T' locs cells slots → T'.heap = h → Go p e below Fi T' (mkF m (pc + 3) Ls (v :: rest))) : Go p e below Fi T (mkF m pc Ls (.ref a :: rest)) := by
  obtain ⟨T', X', e', st⟩ := getF X hx hZ hown (host := "") (Or.inl w) via eT F (g := mkF m pc Ls (.ref a :: rest)) rfl rfl hd
  exact Go.of st (kk T' X' e')
theorem Go.gets (X : Stand p l e R s m args below meth c T locs cells slots) (hx : p.tables.exec = Jvm.exec) (hZ : Z.Warmed39 s.vm) (hown : s.vm.findClass own = some m.cls) {R0 : String} (w : (Cond.fieldLink own index R0 n d).before a0 Z = true) (via : Via Z R0 O n d) (eT : T.heap = h) (F : Sta Z h O n d v) (hd : decode c.code pc = .ok (.getstatic index, 3))
    (kk : ∀ T', Stand p l e R s m args below meth c T' locs cells slots → T'.heap = h → Go p e below Fi T' (mkF m (pc + 3) Ls (v :: st))) : Go p e below Fi T (mkF m pc Ls st) := by
  obtain ⟨T', X', e', stp⟩ := getS2 X hx hZ hown (host := "") (Or.inl w) via eT F (g := mkF m pc Ls st) rfl hd
  exact Go.of stp (kk T' X' e')
theorem Go.putf (X : Stand p l e R s m args below meth c T locs cells slots) (hx : p.tables.exec = Jvm.exec) (hZ : Z.Warmed39 s.vm) (hown : s.vm.findClass own = some m.cls) {R0 : String} (w : (Cond.fieldLink own index R0 n d).before a0 Z = true) (via : Via Z R0 O n d) (eT : T.heap = h) {old : Value} (F : Fld Z h a O n d old) (E : Exa Z h a C) (L : (Cond.lays C O n d).before a0 Z = true ∨ ((Cond.laysFinal C O n d).before a0 Z = true ∧ own = O ∧ meth.name = "<init>")) (wi : (Cond.instantiable C nn).before a0 Z = true) (hty : parseFieldDescriptor d = some ty) {v' : Value} (hn : narrow ty v = v') (hf : fits ty v' = true) (hd : decode c.code pc = .ok (.putfield index, 3))
    (kk : ∀ T' h', Stand p l e R s m args below meth c T' (locs ++ [⟨a, slotOf Z O n d⟩]) cells slots → T'.heap = h' → Wr h h' a (slotOf Z O n d) v' → Fld Z h' a O n d v' → Exa Z h' a C → Go p e below Fi T' (mkF m (pc + 3) Ls rest)) : Go p e below Fi T (mkF m pc Ls (v :: .ref a :: rest)) := by
  obtain ⟨T', h', X', e', W', st⟩ := putFN X hx hZ hown w via eT F E L wi hty hn hf (g := mkF m pc Ls (v :: .ref a :: rest)) rfl rfl hd
  exact Go.of st (kk T' h' X' e' W' (F.same W') (E.wr W'))
theorem Go.initObj (X : Stand p l e R s m args below meth c T locs cells slots) (hx : p.tables.exec = Jvm.exec) (hZ : Z.Warmed39 s.vm) (hown : s.vm.findClass own = some m.cls) (w1 : (Cond.methodLink own index Lib.objectInit).before a0 Z = true) (w2 : (Cond.instanceMethod Lib.objectInit).before a0 Z = true) (w3 : (Cond.code Lib.objectInit ⟨#[0xb1]⟩ 1 none).before a0 Z = true) (eT : T.heap = h) (hsize : Ls.size = c.maxLocals) (hd : decode c.code pc = .ok (.invokespecial index, 3)) (hf : 1 ≤ R.frames) {W : Nat} (hW : (rest.map fun v => v.category).sum ≤ W) (hl : W + 12 ≤ R.locals)
    (kk : ∀ T', Stand p l e R s m args below meth c T' locs cells slots → T'.heap = h → Go p e below Fi T' (mkF m (pc + 3) Ls rest)) : Go p e below Fi T (mkF m pc Ls (.ref a :: rest)) := by
  obtain ⟨T', X', e', st⟩ := initO X hx hZ hown w1 w2 w3 eT (g := mkF m pc Ls (.ref a :: rest)) rfl hsize rfl hd hf (W := W) (by show 2 * 0 + _ ≤ _; omega) hl
  exact Go.of st (kk T' X' e')
end Heaping
end Jvm.RoadKit
namespace Jvm.Pilot.@@N@@
open Jvm Jvm.ClassFile Sem Op Lib Jvm.Free Jvm.Stand Jvm.LawKit Jvm.RoadKit Bundle Jvm.Pilot.@@N@@.Jvm.D
section OwnFloat
open Jvm.FP Jvm.FP.Core
theorem own_up {i : Nat} {c : Nat} {q : Int} (h : Whole (i : Int) (.fin false c q)) (K : Nat) (hK : (-q).toNat ≤ K) : c * 2 ^ (q + K).toNat = i * 2 ^ K := by
  have h1 : ((c * 2 ^ q.toNat : Nat) : Int) = (i : Int) * ((2 ^ (-q).toNat : Nat) : Int) := h
  have h2 : c * 2 ^ q.toNat = i * 2 ^ (-q).toNat := by
    rw [← Int.natCast_mul] at h1; exact Int.ofNat.inj h1
  have e1 : (q + K).toNat = q.toNat + (K - (-q).toNat) := by omega
  have e2 : K = (-q).toNat + (K - (-q).toNat) := by omega
  rw [e1, Nat.pow_add, ← Nat.mul_assoc, h2, Nat.mul_assoc, ← Nat.pow_add, ← e2]
theorem own_shape {a : Int64} {n : Nat} (ha : a.toInt = n) : ∃ c q, val64 (Core.l2d a) = .fin false c q := by
  obtain ⟨c, q, h⟩ := l2d_shape a
  have e : decide (a.toInt < 0) = false := by rw [ha]; exact decide_eq_false (by omega)
  rw [e] at h; exact ⟨c, q, h⟩
theorem own_shapeW {a : Int64} {n : Nat} (ha : a.toInt = n) (hn : n < 2 ^ 53) : ∃ c q, val64 (Core.l2d a) = .fin false c q ∧ ∀ K : Nat, (-q).toNat ≤ K → c * 2 ^ (q + K).toNat = n * 2 ^ K := by
  obtain ⟨c, q, h⟩ := own_shape ha
  have w := l2d_whole (a := a) (by unfold Small53; omega)
  rw [h, ha] at w
  exact ⟨c, q, h, fun K hK => own_up w K hK⟩
theorem own_quot {n h k : Nat} (hn : n < 2 ^ 22) (hh : 0 < h) (hh2 : h < 2 ^ 24) (hk : k ≤ 7) {a b : Int64} (ha : a.toInt = ((n * h : Nat) : Int)) (hb : b.toInt = ((h * 2 ^ k : Nat) : Int)) :
    val64 (Core.ddiv (Core.l2d a) (Core.l2d b)) = roundRatio b64 false n 1 (-(k : Int)) := by
  have l1 : n * h < 2 ^ 46 := by
    have : n * h ≤ 2 ^ 22 * h := Nat.mul_le_mul_right _ (by omega)
    have : 2 ^ 22 * h < 2 ^ 22 * 2 ^ 24 := Nat.mul_lt_mul_of_pos_left hh2 (by decide)
    omega
  have l2 : h * 2 ^ k < 2 ^ 31 := by
    have : 2 ^ k ≤ 2 ^ 7 := Nat.pow_le_pow_right (by decide) hk
    have : h * 2 ^ k ≤ h * 2 ^ 7 := Nat.mul_le_mul_left _ this
    omega
  obtain ⟨ca, qa, ea, wa⟩ := own_shapeW ha (by omega)
  obtain ⟨cb, qb, eb, wb⟩ := own_shapeW hb (by omega)
  obtain ⟨K, K1, K2⟩ : ∃ K : Nat, (-qa).toNat ≤ K ∧ (-qb).toNat ≤ K := ⟨(-qa).toNat + (-qb).toNat, by omega, by omega⟩
  have fa := wa K K1
  have fb := wb K K2
  have p2 : 0 < 2 ^ k := Nat.two_pow_pos _
  have hcb : cb ≠ 0 := fun z => by
    rw [z, Nat.zero_mul] at fb
    have : 0 < h * 2 ^ k * 2 ^ K := Nat.mul_pos (Nat.mul_pos hh p2) (Nat.two_pow_pos _)
    omega
  rw [val64_ddiv, ea, eb]
  show (if cb = 0 then _ else roundRatio b64 (false != false) ca cb (qa - qb)) = _
  rw [if_neg hcb]
  show roundRatio b64 false ca cb (qa - qb) = _
  refine roundRatio_congr (Nat.pos_of_ne_zero hcb) (by decide) ?_
  rw [Nat.mul_one]
  obtain ⟨u, hu⟩ : ∃ u, (qa - qb - -(k : Int)).toNat = u := ⟨_, rfl⟩
  obtain ⟨v, hv⟩ : ∃ v, (-(k : Int) - (qa - qb)).toNat = v := ⟨_, rfl⟩
  obtain ⟨x, hx⟩ : ∃ x, (qa + K).toNat = x := ⟨_, rfl⟩
  obtain ⟨y, hy⟩ : ∃ y, (qb + K).toNat = y := ⟨_, rfl⟩
  rw [hu, hv]; rw [hx] at fa; rw [hy] at fb
  have huv : u + y = x + v + k := by omega
  have hZ : 0 < h * 2 ^ y := Nat.mul_pos hh (Nat.two_pow_pos _)
  refine Nat.eq_of_mul_eq_mul_right hZ ?_
  calc ca * 2 ^ u * (h * 2 ^ y) = ca * h * 2 ^ (u + y) := by rw [Nat.pow_add]; ac_rfl
    _ = (ca * 2 ^ x) * (h * (2 ^ v * 2 ^ k)) := by rw [huv, Nat.pow_add, Nat.pow_add]; ac_rfl
    _ = (n * h * 2 ^ K) * (h * (2 ^ v * 2 ^ k)) := by rw [fa]
    _ = n * 2 ^ v * h * (h * 2 ^ k * 2 ^ K) := by ac_rfl
    _ = n * 2 ^ v * h * (cb * 2 ^ y) := by rw [fb]
    _ = n * cb * 2 ^ v * (h * 2 ^ y) := by ac_rfl
theorem own_exact {n k : Nat} (hn : n < 2 ^ 22) (hk : k ≤ 7) : ∃ c q, roundRatio b64 false n 1 (-(k : Int)) = .fin false c q ∧ c * 2 ^ (q + 1074).toNat = n * 2 ^ (1074 - k) ∧ -1074 ≤ q := by
  have hq : b64.qmin = -1074 := qmin_b64
  have hqm : b64.qmax = 971 := by decide
  obtain ⟨c, q, h1, h2⟩ := round_exact good_b64 false (c := n) (q := -(k : Int)) (by show n < 2 ^ 53; omega) (by rw [hq]; omega) (by rw [hqm]; omega)
  have hf := round_fits good_b64 (.fin false n (-(k : Int)))
  rw [h1] at hf
  refine ⟨c, q, h1, ?_, by have := hf.2.1; rw [hq] at this; exact this⟩
  unfold inUnits at h2
  rw [hq] at h2
  rw [show (q + 1074).toNat = (q - -1074).toNat by omega, h2, show (-(k : Int) - -1074).toNat = 1074 - k by omega]
theorem own_back {n h k : Nat} (hn : n < 2 ^ 22) (hh : 0 < h) (hh2 : h < 2 ^ 24) (hk : k ≤ 7) {a b p m : Int64} (ha : a.toInt = ((n * h : Nat) : Int)) (hb : b.toInt = ((h * 2 ^ k : Nat) : Int)) (hp : p.toInt = ((2 ^ k : Nat) : Int)) (hm : m.toInt = (n : Int)) :
    val64 (Core.dmul (Core.ddiv (Core.l2d a) (Core.l2d b)) (Core.l2d p)) = val64 (Core.l2d m) := by
  have pk : 2 ^ k < 2 ^ 53 := Nat.pow_lt_pow_right (by decide) (by omega)
  obtain ⟨cp, qp, ep, wp⟩ := own_shapeW hp pk
  obtain ⟨c, q, e1, e2, e3⟩ := own_exact hn hk
  rw [val64_dmul, own_quot hn hh hh2 hk ha hb, e1, ep, val64_l2d, hm]
  show roundRatio b64 (false != false) (c * cp) 1 (q + qp) = roundRatio b64 (decide ((n : Int) < 0)) (n : Int).natAbs 1 0
  rw [show decide ((n : Int) < 0) = false from decide_eq_false (by omega), show ((n : Int).natAbs) = n from Int.natAbs_natCast n]
  show roundRatio b64 false (c * cp) 1 (q + qp) = _
  refine roundRatio_congr (by decide) (by decide) ?_
  rw [Nat.mul_one, Nat.mul_one]
  have fp := wp ((-qp).toNat) (Nat.le_refl _)
  obtain ⟨K, hK⟩ : ∃ K, (-qp).toNat = K := ⟨_, rfl⟩
  rw [hK] at fp
  obtain ⟨u, hu⟩ : ∃ u, (q + qp - 0).toNat = u := ⟨_, rfl⟩
  obtain ⟨v, hv⟩ : ∃ v, (0 - (q + qp)).toNat = v := ⟨_, rfl⟩
  obtain ⟨x, hx⟩ : ∃ x, (q + 1074).toNat = x := ⟨_, rfl⟩
  obtain ⟨y, hy⟩ : ∃ y, (qp + K).toNat = y := ⟨_, rfl⟩
  rw [hu, hv]; rw [hx] at e2; rw [hy] at fp
  obtain ⟨A, hA⟩ : ∃ A, 1074 - k = A := ⟨_, rfl⟩
  obtain ⟨M, hM⟩ : ∃ M, 1074 + K = M := ⟨_, rfl⟩
  rw [hA] at e2
  have huv : u + M = v + (x + y) := by omega
  have hAM : A + k + K = M := by omega
  refine Nat.eq_of_mul_eq_mul_right (Nat.two_pow_pos M) ?_
  calc c * cp * 2 ^ u * 2 ^ M = c * cp * 2 ^ (u + M) := by rw [Nat.pow_add]; ac_rfl
    _ = 2 ^ v * ((c * 2 ^ x) * (cp * 2 ^ y)) := by rw [huv, Nat.pow_add, Nat.pow_add]; ac_rfl
    _ = 2 ^ v * ((n * 2 ^ A) * (2 ^ k * 2 ^ K)) := by rw [e2, fp]
    _ = n * 2 ^ v * ((2 ^ A * 2 ^ k) * 2 ^ K) := by ac_rfl
    _ = n * 2 ^ v * 2 ^ M := by rw [← Nat.pow_add, ← Nat.pow_add, hAM]
theorem own_zle {t : Int64} {d : Int64} {n : Nat} (ht : 0 ≤ t.toInt) (hd : d.toInt = (n : Int)) (hn0 : 0 < n) (hn : n < 2 ^ 53) :
    0 ≤ zval b64 (val64 (Core.ddiv (Core.l2d t) (Core.l2d d))) ∧ zval b64 (val64 (Core.ddiv (Core.l2d t) (Core.l2d d))) ≤ zval b64 (val64 (Core.l2d t)) := by
  obtain ⟨ct, qt, et⟩ := own_shape (a := t) (n := t.toInt.toNat) (by omega)
  obtain ⟨cd, qd, ed, wd⟩ := own_shapeW hd hn
  have fd := wd ((-qd).toNat) (Nat.le_refl _)
  have hcd : cd ≠ 0 := fun z => by
    rw [z, Nat.zero_mul] at fd
    have : 0 < n * 2 ^ (-qd).toNat := Nat.mul_pos hn0 (Nat.two_pow_pos _)
    omega
  have fits1 := val64_fits (Core.l2d t)
  have e1 : val64 (Core.ddiv (Core.l2d t) (Core.l2d d)) = roundRatio b64 false ct cd (qt - qd) := by
    rw [val64_ddiv, et, ed]
    show (if cd = 0 then _ else roundRatio b64 (false != false) ct cd (qt - qd)) = _
    rw [if_neg hcd]; rfl
  have hq : b64.qmin = -1074 := qmin_b64
  rw [et] at fits1
  have hqt := fits1.2.1
  have z1 : zval b64 (roundRatio b64 false ct cd (qt - qd)) = (zmag b64 (roundRatio b64 false ct cd (qt - qd)) : Int) := by
    unfold zval; rw [sgn_roundRatio]; rfl
  have z2 : zval b64 (.fin false ct qt) = (zmag b64 (.fin false ct qt) : Int) := rfl
  rw [e1, et, z1, z2]
  refine ⟨by omega, ?_⟩
  have key := zmag_roundRatio_le (s := false) (A := ct) (B := cd) (e := qt - qd) (e0 := min b64.qmin (qt - qd)) good_b64 (V := .fin false ct qt) (Nat.pos_of_ne_zero hcd) fits1 (fun z => by cases z) (by omega) (by omega) ?_
  · omega
  · unfold zmag inUnits
    rw [hq] at hqt ⊢
    obtain ⟨e0, he0⟩ : ∃ e0 : Int, min (-1074) (qt - qd) = e0 := ⟨_, rfl⟩
    rw [he0]
    have hle : 2 ^ (qt - qd - e0).toNat ≤ cd * 2 ^ (qt - e0).toNat := by
      rcases (by omega : qd < 0 ∨ 0 ≤ qd) with z | z
      · have c1 : cd = n * 2 ^ (-qd).toNat := by
          rw [show (qd + ((-qd).toNat : Nat)).toNat = 0 by omega, Nat.pow_zero, Nat.mul_one] at fd; exact fd
        have c2 : 2 ^ (-qd).toNat ≤ cd := by rw [c1]; exact Nat.le_mul_of_pos_left _ hn0
        calc 2 ^ (qt - qd - e0).toNat = 2 ^ (-qd).toNat * 2 ^ (qt - e0).toNat := by rw [← Nat.pow_add, show (qt - qd - e0).toNat = (-qd).toNat + (qt - e0).toNat by omega]
          _ ≤ cd * 2 ^ (qt - e0).toNat := Nat.mul_le_mul_right _ c2
      · calc 2 ^ (qt - qd - e0).toNat ≤ 2 ^ (qt - e0).toNat := Nat.pow_le_pow_right (by decide) (by omega)
          _ ≤ cd * 2 ^ (qt - e0).toNat := Nat.le_mul_of_pos_left _ (Nat.pos_of_ne_zero hcd)
    calc ct * 2 ^ (qt - qd - e0).toNat ≤ ct * (cd * 2 ^ (qt - e0).toNat) := Nat.mul_le_mul_left _ hle
      _ = ct * 2 ^ (qt - -1074).toNat * 2 ^ (-1074 - e0).toNat * cd := by
        rw [show (qt - e0).toNat = (qt - -1074).toNat + (-1074 - e0).toNat by omega, Nat.pow_add]; ac_rfl
theorem own_cmp_le {x y : UInt64} (hx : val64 x ≠ .nan) (hy : val64 y ≠ .nan) (h : zval b64 (val64 x) ≤ zval b64 (val64 y)) (o : Jvm.ClassFile.CmpOp) : ¬ (0 : Int32) < cmpValue (Core.dcmp x y) o := by
  have e : Core.dcmp x y = some (compare (zval b64 (val64 x)) (zval b64 (val64 y))) := order_zval good_b64 (val64_fits x) (val64_fits y) hx hy
  rw [e]
  rcases Int.lt_or_eq_of_le h with q | q
  · rw [(compare_lt_iff _ _).mpr q]; cases o <;> decide
  · rw [(compare_eq_iff _ _).mpr q]; cases o <;> decide
end OwnFloat
def own_avg (d : Int32) (t : Int64) : UInt64 := if d = 0 then 0 else FP.ddiv (FP.l2d t) (FP.i2d d)
section OwnAvg
open Jvm.FP Jvm.Free.Fl
theorem own_avg_nn {t : Int64} {d : Int32} (hd : ¬ d = 0) : NoNaN64 (FP.ddiv (FP.l2d t) (FP.i2d d)) := ddiv_out (l2d_fin t).noNaN (i2d_fin d) (i2d_nz hd)
theorem own_core {x : UInt64} (h : NoNaN64 x) : Core.val64 x ≠ .nan := (Core.notNaN_iff x).mp (noNaN64_no.mp h)
theorem own_zero (o : Jvm.ClassFile.CmpOp) : cmpValue (FP.dcmp 0 0) o = 0 := by cases o <;> decide +kernel
theorem own_shl (x : Int32) {k n : Nat} (hx : x.toInt = n) (kk : Int32) (hk : kk.toInt = k) (hk7 : k ≤ 7) (hn : n < 2 ^ 24) : (x <<< (kk &&& 31)).toInt = ((n * 2 ^ k : Nat) : Int) := by
  have e : kk = Int32.ofNat k := by
    apply Int32.toInt_inj.mp; rw [hk, Int32.toInt_ofNat_of_lt (by omega)]
  have p : 2 ^ k ≤ 2 ^ 7 := Nat.pow_le_pow_right (by decide) hk7
  have p0 : 0 < 2 ^ k := Nat.two_pow_pos _
  have h2 : n * 2 ^ k ≤ n * 2 ^ 7 := Nat.mul_le_mul_left _ p
  have h3 : (((kk &&& 31)).toBitVec.smod 32).toNat = k := by
    rw [e]
    have : ∀ j : Fin 8, (((Int32.ofNat j.val &&& 31)).toBitVec.smod 32).toNat = j.val := by decide +kernel
    exact this ⟨k, by omega⟩
  have h4 : x.toInt * 2 ^ k = ((n * 2 ^ k : Nat) : Int) := by rw [hx]; push_cast; rfl
  rw [Jvm.Kit.i32_shl x (kk &&& 31) h3 (by rw [h4]; omega) (by rw [h4]; omega), h4]
theorem own_even {h k : Int32} {n : Int64} {hN kN nN : Nat} (hh : h.toInt = hN) (hk : k.toInt = kN) (hn : n.toInt = nN) (h1 : hN < 2 ^ 24) (h2 : kN ≤ 7) (h3 : nN < 2 ^ 22) (h0 : ¬ h = 0) (o : Jvm.ClassFile.CmpOp) :
    cmpValue (FP.dcmp (FP.dmul (own_avg (h <<< (k &&& 31)) (n * h.toInt64)) (FP.i2d ((1 : Int32) <<< (k &&& 31)))) (FP.l2d n)) o = 0 ∧ NoNaN64 (FP.dmul (own_avg (h <<< (k &&& 31)) (n * h.toInt64)) (FP.i2d ((1 : Int32) <<< (k &&& 31)))) := by
  have hpos : 0 < hN := by
    rcases Nat.eq_zero_or_pos hN with z | z
    · exact absurd (Int32.toInt_inj.mp (by rw [hh, z]; rfl)) h0
    · exact z
  have e1 := own_shl h hh k hk h2 h1
  have e2 : ((1 : Int32) <<< (k &&& 31)).toInt = ((2 ^ kN : Nat) : Int) := by
    have := own_shl 1 (n := 1) rfl k hk h2 (by decide); rw [Nat.one_mul] at this; exact this
  have l1 : nN * hN < 2 ^ 46 := by
    have a1 : nN * hN ≤ 2 ^ 22 * hN := Nat.mul_le_mul_right _ (by omega)
    have a2 : 2 ^ 22 * hN < 2 ^ 22 * 2 ^ 24 := Nat.mul_lt_mul_of_pos_left h1 (by decide)
    omega
  have e3 : (n * h.toInt64).toInt = ((nN * hN : Nat) : Int) := by
    have q : n.toInt * h.toInt64.toInt = ((nN * hN : Nat) : Int) := by rw [Int32.toInt_toInt64, hn, hh]; push_cast; rfl
    rw [Jvm.Kit.i64_mul (by rw [q]; omega) (by rw [q]; omega), q]
  have d0 : ¬ h <<< (k &&& 31) = 0 := fun z => by
    have p0 : 0 < hN * 2 ^ kN := Nat.mul_pos hpos (Nat.two_pow_pos _)
    rw [z] at e1; have : (0 : Int32).toInt = 0 := rfl; omega
  have e4 : own_avg (h <<< (k &&& 31)) (n * h.toInt64) = FP.ddiv (FP.l2d (n * h.toInt64)) (FP.l2d (h <<< (k &&& 31)).toInt64) := by rw [own_avg, if_neg d0, i2d_w]
  rw [e4, i2d_w]
  have v := own_back h3 hpos h1 h2 (a := n * h.toInt64) (b := (h <<< (k &&& 31)).toInt64) (p := ((1 : Int32) <<< (k &&& 31)).toInt64) (m := n) e3 (by rw [Int32.toInt_toInt64]; exact e1) (by rw [Int32.toInt_toInt64]; exact e2) hn
  have nn : NoNaN64 (FP.l2d n) := (l2d_fin n).noNaN
  have b : FP.dmul (FP.ddiv (FP.l2d (n * h.toInt64)) (FP.l2d (h <<< (k &&& 31)).toInt64)) (FP.l2d ((1 : Int32) <<< (k &&& 31)).toInt64) = FP.l2d n := (Core.val64_inj (own_core nn) v.symm).symm
  rw [b]
  exact ⟨dcmpV_self nn o, nn⟩
theorem own_odd {d : Int32} {t : Int64} (hd : 0 ≤ d.toInt) (ht : 0 ≤ t.toInt) (h0 : ¬ d = 0) :
    (¬ (0 : Int32) < cmpValue (FP.dcmp 0 (own_avg d t)) .g) ∧ ¬ (0 : Int32) < cmpValue (FP.dcmp (own_avg d t) (FP.l2d t)) .g := by
  have e4 : own_avg d t = FP.ddiv (FP.l2d t) (FP.l2d d.toInt64) := by rw [own_avg, if_neg h0, i2d_w]
  have nn : NoNaN64 (FP.ddiv (FP.l2d t) (FP.l2d d.toInt64)) := by rw [← i2d_w]; exact own_avg_nn h0
  have dp : 0 < d.toInt.toNat := by
    rcases Nat.eq_zero_or_pos d.toInt.toNat with z | z
    · exact absurd (Int32.toInt_inj.mp (by show d.toInt = 0; omega)) h0
    · exact z
  have l := d.toInt_lt
  obtain ⟨z1, z2⟩ := own_zle (t := t) (d := d.toInt64) (n := d.toInt.toNat) ht (by rw [Int32.toInt_toInt64]; omega) dp (by omega)
  rw [e4]
  have c0 : Core.val64 (0 : UInt64) = .fin false 0 Core.b64.qmin := Core.val64_dconst0
  refine ⟨own_cmp_le (by rw [c0]; exact fun z => by cases z) (own_core nn) (by rw [c0]; exact z1) .g, own_cmp_le (own_core nn) (own_core (l2d_fin t).noNaN) z2 .g⟩
theorem own_one {t : Int64} (o : Jvm.ClassFile.CmpOp) : cmpValue (FP.dcmp (own_avg 1 t) (FP.l2d t)) o = 0 := by
  have nn : NoNaN64 (FP.l2d t) := (l2d_fin t).noNaN
  have e : own_avg 1 t = FP.l2d t := by
    rw [own_avg, if_neg (by decide), show FP.i2d 1 = Core.dconst1 by decide +kernel]
    exact Core.ddiv_one (own_core nn)
  rw [e]; exact dcmpV_self nn o
end OwnAvg
theorem own_cmpL_nn {t : Int64} (h : 0 ≤ t.toInt) : ¬ XS.cmpL t 0 < 0 := by
  unfold XS.cmpL
  split
  · decide
  · split
    · decide
    · rename_i a b
      have a' := mt Int64.lt_iff_toInt_lt.mpr a
      have b' : ¬ t.toInt = (0 : Int64).toInt := fun z => b (Int64.toInt_inj.mp z)
      have : (0 : Int64).toInt = 0 := rfl
      omega
theorem own_nn {x : Int32} (h : 0 ≤ x.toInt) : ¬ x < 0 := by rw [Int32.lt_iff_toInt_lt]; have : (0 : Int32).toInt = 0 := rfl; omega
theorem own_m31 {x y : Int32} (h : x &&& 2147483647 = y) : 0 ≤ y.toInt := by
  have := Jvm.Kit.i32_mask x 2147483647 (k := 31) (by decide) (by decide); rw [← h, this]; omega
theorem own_m24 {x y : Int32} (h : x &&& 16777215 = y) : y.toInt = (y.toInt.toNat : Int) ∧ y.toInt.toNat < 2 ^ 24 := by
  have := Jvm.Kit.i32_mask x 16777215 (k := 24) (by decide) (by decide); rw [h] at this; omega
theorem own_m3 {x y : Int32} (h : x &&& 7 = y) : y.toInt = (y.toInt.toNat : Int) ∧ y.toInt.toNat ≤ 7 := by
  have := Jvm.Kit.i32_mask x 7 (k := 3) (by decide) (by decide); rw [h] at this; omega
theorem own_m22 {x y : Int64} (h : x &&& 4194303 = y) : y.toInt = (y.toInt.toNat : Int) ∧ y.toInt.toNat < 2 ^ 22 := by
  have := Jvm.Kit.i64_mask x 4194303 (k := 22) (by decide) (by decide); rw [h] at this; omega
theorem own_m63 {x y : Int64} (h : x &&& 9223372036854775807 = y) : 0 ≤ y.toInt := by
  have := Jvm.Kit.i64_mask x 9223372036854775807 (k := 63) (by decide) (by decide); rw [← h, this]; omega
theorem own_dpos {hh kk : Int32} (h1 : hh.toInt = (hh.toInt.toNat : Int) ∧ hh.toInt.toNat < 2 ^ 24) (h2 : kk.toInt = (kk.toInt.toNat : Int) ∧ kk.toInt.toNat ≤ 7) : ¬ hh <<< (kk &&& 31) < 0 :=
  own_nn (by rw [own_shl hh h1.1 kk h2.1 h2.2 h1.2]; exact Int.natCast_nonneg _)
theorem own_tpos {hh : Int32} {nn : Int64} (h1 : hh.toInt = (hh.toInt.toNat : Int) ∧ hh.toInt.toNat < 2 ^ 24) (h2 : nn.toInt = (nn.toInt.toNat : Int) ∧ nn.toInt.toNat < 2 ^ 22) : 0 ≤ (nn * hh.toInt64).toInt := by
  have a1 : nn.toInt.toNat * hh.toInt.toNat ≤ 2 ^ 22 * hh.toInt.toNat := Nat.mul_le_mul_right _ (by omega)
  have q : nn.toInt * hh.toInt64.toInt = ((nn.toInt.toNat * hh.toInt.toNat : Nat) : Int) := by rw [Int32.toInt_toInt64]; rw [Int.natCast_mul, ← h1.1, ← h2.1]
  rw [Jvm.Kit.i64_mul (by rw [q]; omega) (by rw [q]; omega), q]; exact Int.natCast_nonneg _
theorem own_avg0 {hh kk : Int32} {t : Int64} (h : hh = 0) : own_avg (hh <<< (kk &&& 31)) t = 0 := by
  subst h
  have : (0 : Int32) <<< (kk &&& 31) = 0 := Int32.zero_shiftLeft
  rw [own_avg, if_pos this]
theorem own_dsc0 : parseMethodDescriptor "(IIJ)V" = some ⟨[.int, .int, .long], none⟩ := by decide +kernel
theorem own_dsc1 : parseMethodDescriptor "()D" = some ⟨[], some .double⟩ := by decide +kernel
theorem own_id0 : decode prog_37_method_1_code 0 = .ok (.aload_n 0, 1) := by decide +kernel
theorem own_id1 : decode prog_37_method_1_code 1 = .ok (.invokespecial 1, 3) := by decide +kernel
theorem own_id4 : decode prog_37_method_1_code 4 = .ok (.iload_n 1, 1) := by decide +kernel
theorem own_id5 : decode prog_37_method_1_code 5 = .ok (.ifCond .lt 13, 3) := by decide +kernel
theorem own_id8 : decode prog_37_method_1_code 8 = .ok (.iload_n 2, 1) := by decide +kernel
theorem own_id9 : decode prog_37_method_1_code 9 = .ok (.ifCond .lt 9, 3) := by decide +kernel
theorem own_id12 : decode prog_37_method_1_code 12 = .ok (.lload_n 3, 1) := by decide +kernel
theorem own_id13 : decode prog_37_method_1_code 13 = .ok (.lconst 0, 1) := by decide +kernel
theorem own_id14 : decode prog_37_method_1_code 14 = .ok (.lcmp, 1) := by decide +kernel
theorem own_id15 : decode prog_37_method_1_code 15 = .ok (.ifCond .ge 41, 3) := by decide +kernel
theorem own_id56 : decode prog_37_method_1_code 56 = .ok (.aload_n 0, 1) := by decide +kernel
theorem own_id57 : decode prog_37_method_1_code 57 = .ok (.iload_n 1, 1) := by decide +kernel
theorem own_id58 : decode prog_37_method_1_code 58 = .ok (.putfield 31, 3) := by decide +kernel
theorem own_id61 : decode prog_37_method_1_code 61 = .ok (.aload_n 0, 1) := by decide +kernel
theorem own_id62 : decode prog_37_method_1_code 62 = .ok (.iload_n 2, 1) := by decide +kernel
theorem own_id63 : decode prog_37_method_1_code 63 = .ok (.putfield 37, 3) := by decide +kernel
theorem own_id66 : decode prog_37_method_1_code 66 = .ok (.aload_n 0, 1) := by decide +kernel
theorem own_id67 : decode prog_37_method_1_code 67 = .ok (.lload_n 3, 1) := by decide +kernel
theorem own_id68 : decode prog_37_method_1_code 68 = .ok (.putfield 40, 3) := by decide +kernel
theorem own_id71 : decode prog_37_method_1_code 71 = .ok (.return_, 1) := by decide +kernel
abbrev own_rmI_Q (Z : State) (a : Addr) (d tc : Int32) (t : Int64) (n0 : Nat) (h0 : Heap) : Option Value → Heap → List Loc → Prop := fun v h L => v = none ∧ Fr n0 L ∧ Keep h0 h [a] ∧ Exa Z h a "com/example/rorqual/rorqual/index/CollectionStatistics" ∧ Fld Z h a "com/example/rorqual/rorqual/index/CollectionStatistics" "documentCount" "I" (.int d) ∧ Fld Z h a "com/example/rorqual/rorqual/index/CollectionStatistics" "tokenCount" "J" (.long t)
set_option maxRecDepth 65536 in
set_option maxHeartbeats 40000000 in
theorem own_rmI (l : Launch) (Z : State) (a0 : Array Value) (hw : ∀ d ∈ tables_1, d.before a0 Z = true) (a : Addr) (d tc : Int32) (t : Int64) (n0 : Nat) (h0 : Heap) (Z0 : n0 ≤ h0.size) (ga : n0 ≤ a) (h1 : ¬ d < 0) (h2 : ¬ tc < 0) (h3 : ¬ XS.cmpL t 0 < 0) (EA : Exa Z h0 a "com/example/rorqual/rorqual/index/CollectionStatistics") (F_documentCount : Fld Z h0 a "com/example/rorqual/rorqual/index/CollectionStatistics" "documentCount" "I" (.int 0)) (F_termCount : Fld Z h0 a "com/example/rorqual/rorqual/index/CollectionStatistics" "termCount" "I" (.int 0)) (F_tokenCount : Fld Z h0 a "com/example/rorqual/rorqual/index/CollectionStatistics" "tokenCount" "J" (.long 0)) :
    MetFree l (⟨"com/example/rorqual/rorqual/index/CollectionStatistics", "<init>", "(IIJ)V"⟩ : MethodName) (head1 [Jvm.Cond.code (⟨"com/example/rorqual/rorqual/index/CollectionStatistics", "<init>", "(IIJ)V"⟩ : MethodName) prog_37_method_1_code 5 none] ({ frames := 1, cells := 0, slots := 0, locals := 12 } : Room)) (fun aa U => aa = #[(.ref a), (.int d), (.int tc), (.long t)] ∧ Z.Warmed39 U.vm ∧ U.heap = h0) (fun _ _ _ _ _ => True) (fun _ U o U' => ∃ v L, o = .returned v ∧ ((own_rmI_Q Z a d tc t n0 h0)) v U'.heap L ∧ FrameEnd U o U' L ({ frames := 1, cells := 0, slots := 0, locals := 12 } : Room).cells ({ frames := 1, cells := 0, slots := 0, locals := 12 } : Room).slots) := by
  refine goBody (y := (⟨"com/example/rorqual/rorqual/index/CollectionStatistics", "<init>", "(IIJ)V"⟩ : MethodName)) (Q := (own_rmI_Q Z a d tc t n0 h0)) (plainFor_of_name (by first | (simp [plainName, overriddenIn]; done) | decide +kernel)) ?_
  intro p e s m below meth c T0 hx hZ hby hml hown hnm hret hlk X0 e0
  have hown : s.vm.findClass "com/example/rorqual/rorqual/index/CollectionStatistics" = some m.cls := hown
  refine Go.cast (g' := mkF m 0 #[.val (.ref a), .val (.int d), .val (.int tc), .val (.long t), .second] []) (by first | (simp [entryFrame, mkF, argsToLocals, Value.category]; done) | rfl) ?_
  show Go p e below _ T0 (mkF m 0 #[.val (.ref a), .val (.int d), .val (.int tc), .val (.long t), .second] [])
  refine Go.of (fun _ k => XS.aloadN X0.here hx rfl (hb hby own_id0) rfl rfl k) ?_
  show Go p e below _ T0 (mkF m 1 #[.val (.ref a), .val (.int d), .val (.int tc), .val (.long t), .second] [(.ref a)])
  refine Go.initObj X0 hx hZ hown (hw _ (List.mem_of_getElem? (i := 9) rfl)) (hw _ (List.mem_of_getElem? (i := 10) rfl)) (hw _ (List.mem_of_getElem? (i := 11) rfl)) e0 (by rw [hml]; rfl) (hb hby own_id1) (by decide) (W := 0) (Nat.le_of_eq rfl) (by decide) fun T1 X1 e1 => ?_
  show Go p e below _ T1 (mkF m 4 #[.val (.ref a), .val (.int d), .val (.int tc), .val (.long t), .second] [])
  refine Go.of (fun _ k => XS.iloadN X1.here hx rfl (hb hby own_id4) rfl k) ?_
  show Go p e below _ T1 (mkF m 5 #[.val (.ref a), .val (.int d), .val (.int tc), .val (.long t), .second] [(.int d)])
  refine Go.of (fun _ k => XS.ifNo X1.here hx rfl (hb hby own_id5) rfl ((if0 _ _).trans (flt h1).1) k) ?_
  show Go p e below _ T1 (mkF m 8 #[.val (.ref a), .val (.int d), .val (.int tc), .val (.long t), .second] [])
  refine Go.of (fun _ k => XS.iloadN X1.here hx rfl (hb hby own_id8) rfl k) ?_
  show Go p e below _ T1 (mkF m 9 #[.val (.ref a), .val (.int d), .val (.int tc), .val (.long t), .second] [(.int tc)])
  refine Go.of (fun _ k => XS.ifNo X1.here hx rfl (hb hby own_id9) rfl ((if0 _ _).trans (flt h2).1) k) ?_
  show Go p e below _ T1 (mkF m 12 #[.val (.ref a), .val (.int d), .val (.int tc), .val (.long t), .second] [])
  refine Go.of (fun _ k => XS.lloadN X1.here hx rfl (hb hby own_id12) rfl k) ?_
  show Go p e below _ T1 (mkF m 13 #[.val (.ref a), .val (.int d), .val (.int tc), .val (.long t), .second] [(.long t)])
  refine Go.of (fun _ k => XS.lconst X1.here hx rfl (hb hby own_id13) k) ?_
  show Go p e below _ T1 (mkF m 14 #[.val (.ref a), .val (.int d), .val (.int tc), .val (.long t), .second] [(.long (0 : Int64)), (.long t)])
  refine Go.of (fun _ k => XS.lcmp X1.here hx rfl (hb hby own_id14) rfl k) ?_
  show Go p e below _ T1 (mkF m 15 #[.val (.ref a), .val (.int d), .val (.int tc), .val (.long t), .second] [(.int (XS.cmpL t (0 : Int64)))])
  refine Go.of (fun _ k => XS.ifYes X1.here hx rfl (pc0 := 15) (pc' := 56) rfl (hb hby own_id15) rfl ((if0 _ _).trans (flt h3).2.1) (by decide) (by decide) k) ?_
  show Go p e below _ T1 (mkF m 56 #[.val (.ref a), .val (.int d), .val (.int tc), .val (.long t), .second] [])
  refine Go.of (fun _ k => XS.aloadN X1.here hx rfl (hb hby own_id56) rfl rfl k) ?_
  show Go p e below _ T1 (mkF m 57 #[.val (.ref a), .val (.int d), .val (.int tc), .val (.long t), .second] [(.ref a)])
  refine Go.of (fun _ k => XS.iloadN X1.here hx rfl (hb hby own_id57) rfl k) ?_
  show Go p e below _ T1 (mkF m 58 #[.val (.ref a), .val (.int d), .val (.int tc), .val (.long t), .second] [(.int d), (.ref a)])
  refine Go.putf X1 hx hZ hown (hw _ (List.mem_of_getElem? (i := 12) rfl)) Via.refl e1 F_documentCount EA (Or.inr ⟨(hw _ (List.mem_of_getElem? (i := 13) rfl)), rfl, hnm⟩) (hw _ (List.mem_of_getElem? (i := 4) rfl)) (ty := .int) (by decide) rfl rfl (hb hby own_id58) fun T2 h2 X2 e2 W2 F2 A2 => ?_
  have sz2 : n0 ≤ h2.size := Nat.le_trans Z0 (Keep.of_wr W2).1
  have kp2 : Keep h0 h2 [a] := (Keep.refl h0 [a]).wr W2 (Or.inl (List.mem_of_getElem? (i := 0) rfl))
  have N2 := Fr.snoc X2 (Fr.nil n0) ga
  show Go p e below _ T2 (mkF m 61 #[.val (.ref a), .val (.int d), .val (.int tc), .val (.long t), .second] [])
  refine Go.of (fun _ k => XS.aloadN X2.here hx rfl (hb hby own_id61) rfl rfl k) ?_
  show Go p e below _ T2 (mkF m 62 #[.val (.ref a), .val (.int d), .val (.int tc), .val (.long t), .second] [(.ref a)])
  refine Go.of (fun _ k => XS.iloadN X2.here hx rfl (hb hby own_id62) rfl k) ?_
  show Go p e below _ T2 (mkF m 63 #[.val (.ref a), .val (.int d), .val (.int tc), .val (.long t), .second] [(.int tc), (.ref a)])
  refine Go.putf X2 hx hZ hown (hw _ (List.mem_of_getElem? (i := 14) rfl)) Via.refl e2 (F_termCount.other W2 (Or.inr (slot_ne (Or.inr (hw _ (List.mem_of_getElem? (i := 15) rfl))) (Or.inr (hw _ (List.mem_of_getElem? (i := 13) rfl))) (by decide) (t := .int) (t' := .int) (by decide) (by decide)))) A2 (Or.inr ⟨(hw _ (List.mem_of_getElem? (i := 15) rfl)), rfl, hnm⟩) (hw _ (List.mem_of_getElem? (i := 4) rfl)) (ty := .int) (by decide) rfl rfl (hb hby own_id63) fun T3 h3 X3 e3 W3 F3 A3 => ?_
  have sz3 : n0 ≤ h3.size := Nat.le_trans sz2 (Keep.of_wr W3).1
  have kp3 : Keep h0 h3 [a] := kp2.wr W3 (Or.inl (List.mem_of_getElem? (i := 0) rfl))
  have N3 := Fr.snoc X3 N2 ga
  show Go p e below _ T3 (mkF m 66 #[.val (.ref a), .val (.int d), .val (.int tc), .val (.long t), .second] [])
  refine Go.of (fun _ k => XS.aloadN X3.here hx rfl (hb hby own_id66) rfl rfl k) ?_
  show Go p e below _ T3 (mkF m 67 #[.val (.ref a), .val (.int d), .val (.int tc), .val (.long t), .second] [(.ref a)])
  refine Go.of (fun _ k => XS.lloadN X3.here hx rfl (hb hby own_id67) rfl k) ?_
  show Go p e below _ T3 (mkF m 68 #[.val (.ref a), .val (.int d), .val (.int tc), .val (.long t), .second] [(.long t), (.ref a)])
  refine Go.putf X3 hx hZ hown (hw _ (List.mem_of_getElem? (i := 16) rfl)) Via.refl e3 ((F_tokenCount.other W2 (Or.inr (slot_ne (Or.inr (hw _ (List.mem_of_getElem? (i := 17) rfl))) (Or.inr (hw _ (List.mem_of_getElem? (i := 13) rfl))) (by decide) (t := .long) (t' := .int) (by decide) (by decide)))).other W3 (Or.inr (slot_ne (Or.inr (hw _ (List.mem_of_getElem? (i := 17) rfl))) (Or.inr (hw _ (List.mem_of_getElem? (i := 15) rfl))) (by decide) (t := .long) (t' := .int) (by decide) (by decide)))) A3 (Or.inr ⟨(hw _ (List.mem_of_getElem? (i := 17) rfl)), rfl, hnm⟩) (hw _ (List.mem_of_getElem? (i := 4) rfl)) (ty := .long) (by decide) rfl rfl (hb hby own_id68) fun T4 h4 X4 e4 W4 F4 A4 => ?_
  have sz4 : n0 ≤ h4.size := Nat.le_trans sz3 (Keep.of_wr W4).1
  have kp4 : Keep h0 h4 [a] := kp3.wr W4 (Or.inl (List.mem_of_getElem? (i := 0) rfl))
  have N4 := Fr.snoc X4 N3 ga
  show Go p e below _ T4 (mkF m 71 #[.val (.ref a), .val (.int d), .val (.int tc), .val (.long t), .second] [])
  exact Go.retV X4 hx hlk hret (hb hby own_id71) (by decide) (by decide) (by rw [e4]; exact ⟨rfl, N4, kp4, A4, ((F2.other W3 (Or.inr (slot_ne (Or.inr (hw _ (List.mem_of_getElem? (i := 13) rfl))) (Or.inr (hw _ (List.mem_of_getElem? (i := 15) rfl))) (by decide) (t := .int) (t' := .int) (by decide) (by decide)))).other W4 (Or.inr (slot_ne (Or.inr (hw _ (List.mem_of_getElem? (i := 13) rfl))) (Or.inr (hw _ (List.mem_of_getElem? (i := 17) rfl))) (by decide) (t := .int) (t' := .long) (by decide) (by decide)))), F4⟩)
theorem own_ad0 : decode prog_37_method_6_code 0 = .ok (.aload_n 0, 1) := by decide +kernel
theorem own_ad1 : decode prog_37_method_6_code 1 = .ok (.getfield 31, 3) := by decide +kernel
theorem own_ad4 : decode prog_37_method_6_code 4 = .ok (.ifCond .ne 8, 3) := by decide +kernel
theorem own_ad7 : decode prog_37_method_6_code 7 = .ok (.dconst 0, 1) := by decide +kernel
theorem own_ad8 : decode prog_37_method_6_code 8 = .ok (.dstore_n 1, 1) := by decide +kernel
theorem own_ad9 : decode prog_37_method_6_code 9 = .ok (.goto 15, 3) := by decide +kernel
theorem own_ad12 : decode prog_37_method_6_code 12 = .ok (.aload_n 0, 1) := by decide +kernel
theorem own_ad13 : decode prog_37_method_6_code 13 = .ok (.getfield 40, 3) := by decide +kernel
theorem own_ad16 : decode prog_37_method_6_code 16 = .ok (.l2d, 1) := by decide +kernel
theorem own_ad17 : decode prog_37_method_6_code 17 = .ok (.aload_n 0, 1) := by decide +kernel
theorem own_ad18 : decode prog_37_method_6_code 18 = .ok (.getfield 31, 3) := by decide +kernel
theorem own_ad21 : decode prog_37_method_6_code 21 = .ok (.i2d, 1) := by decide +kernel
theorem own_ad22 : decode prog_37_method_6_code 22 = .ok (.ddiv, 1) := by decide +kernel
theorem own_ad23 : decode prog_37_method_6_code 23 = .ok (.dstore_n 1, 1) := by decide +kernel
theorem own_ad24 : decode prog_37_method_6_code 24 = .ok (.dload_n 1, 1) := by decide +kernel
theorem own_ad25 : decode prog_37_method_6_code 25 = .ok (.dreturn, 1) := by decide +kernel
set_option maxRecDepth 65536 in
set_option maxHeartbeats 40000000 in
theorem own_rmA (l : Launch) (Z : State) (a0 : Array Value) (hw : ∀ d ∈ tables_1, d.before a0 Z = true) (a : Addr) (d : Int32) (t : Int64) (h0 : Heap) (FD : Fld Z h0 a "com/example/rorqual/rorqual/index/CollectionStatistics" "documentCount" "I" (.int d)) (FT : Fld Z h0 a "com/example/rorqual/rorqual/index/CollectionStatistics" "tokenCount" "J" (.long t)) :
    MetFree l (⟨"com/example/rorqual/rorqual/index/CollectionStatistics", "averageDocumentLength", "()D"⟩ : MethodName) (head1 [Jvm.Cond.code (⟨"com/example/rorqual/rorqual/index/CollectionStatistics", "averageDocumentLength", "()D"⟩ : MethodName) prog_37_method_6_code 3 (some .double)] ({ frames := 0, cells := 0, slots := 0, locals := 0 } : Room)) (fun aa U => aa = #[(.ref a)] ∧ Z.Warmed39 U.vm ∧ U.heap = h0) (fun _ _ _ _ _ => True) (fun _ U o U' => ∃ v L, o = .returned v ∧ (PQ h0 (some (.double (own_avg d t)))) v U'.heap L ∧ FrameEnd U o U' L ({ frames := 0, cells := 0, slots := 0, locals := 0 } : Room).cells ({ frames := 0, cells := 0, slots := 0, locals := 0 } : Room).slots) := by
  refine goBody (y := (⟨"com/example/rorqual/rorqual/index/CollectionStatistics", "averageDocumentLength", "()D"⟩ : MethodName)) (Q := PQ h0 (some (.double (own_avg d t)))) (plainFor_of_name (by first | (simp [plainName, overriddenIn]; done) | decide +kernel)) ?_
  intro p e s m below meth c T0 hx hZ hby hml hown hnm hret hlk X0 e0
  have hown : s.vm.findClass "com/example/rorqual/rorqual/index/CollectionStatistics" = some m.cls := hown
  refine Go.cast (g' := mkF m 0 #[.val (.ref a), .unset, .unset] []) (by first | (simp [entryFrame, mkF, argsToLocals, Value.category]; done) | rfl) ?_
  show Go p e below _ T0 (mkF m 0 #[.val (.ref a), .unset, .unset] [])
  refine Go.of (fun _ k => XS.aloadN X0.here hx rfl (hb hby own_ad0) rfl rfl k) ?_
  show Go p e below _ T0 (mkF m 1 #[.val (.ref a), .unset, .unset] [(.ref a)])
  refine Go.getf X0 hx hZ hown (hw _ (List.mem_of_getElem? (i := 12) rfl)) Via.refl e0 FD (hb hby own_ad1) fun T1 X1 e1 => ?_
  show Go p e below _ T1 (mkF m 4 #[.val (.ref a), .unset, .unset] [(.int d)])
  by_cases hc4 : d = (0 : Int32)
  ·
    refine Go.of (fun _ k => XS.ifNo X1.here hx rfl (hb hby own_ad4) rfl ((if0 _ _).trans (teq hc4).2) k) ?_
    show Go p e below _ T1 (mkF m 7 #[.val (.ref a), .unset, .unset] [])
    refine Go.of (fun _ k => XS.dconst0 X1.here hx rfl (hb hby own_ad7) (v := 0) (by decide +kernel) k) ?_
    show Go p e below _ T1 (mkF m 8 #[.val (.ref a), .unset, .unset] [(.double (0 : UInt64))])
    refine Go.of (fun _ k => XS.dstoreN X1.here hx rfl (hb hby own_ad8) rfl (l' := #[.val (.ref a), .val (.double (0 : UInt64)), .second]) rfl k) ?_
    show Go p e below _ T1 (mkF m 9 #[.val (.ref a), .val (.double (0 : UInt64)), .second] [])
    refine Go.of (fun _ k => XS.goto X1.here hx rfl (pc0 := 9) (pc' := 24) rfl (hb hby own_ad9) (by decide) (by decide) k) ?_
    show Go p e below _ T1 (mkF m 24 #[.val (.ref a), .val (.double (0 : UInt64)), .second] [])
    refine Go.of (fun _ k => XS.dloadN X1.here hx rfl (hb hby own_ad24) rfl k) ?_
    show Go p e below _ T1 (mkF m 25 #[.val (.ref a), .val (.double (0 : UInt64)), .second] [(.double (0 : UInt64))])
    exact Go.retD X1 hx hlk hret (hb hby own_ad25) (by decide) (by decide) ⟨congrArg (fun z => some (Value.double z)) (show (0 : UInt64) = own_avg d t by rw [own_avg, if_pos hc4]), rfl, e1⟩
  ·
    refine Go.of (fun _ k => XS.ifYes X1.here hx rfl (pc0 := 4) (pc' := 12) rfl (hb hby own_ad4) rfl ((if0 _ _).trans (feq hc4).2) (by decide) (by decide) k) ?_
    show Go p e below _ T1 (mkF m 12 #[.val (.ref a), .unset, .unset] [])
    refine Go.of (fun _ k => XS.aloadN X1.here hx rfl (hb hby own_ad12) rfl rfl k) ?_
    show Go p e below _ T1 (mkF m 13 #[.val (.ref a), .unset, .unset] [(.ref a)])
    refine Go.getf X1 hx hZ hown (hw _ (List.mem_of_getElem? (i := 16) rfl)) Via.refl e1 FT (hb hby own_ad13) fun T2 X2 e2 => ?_
    show Go p e below _ T2 (mkF m 16 #[.val (.ref a), .unset, .unset] [(.long t)])
    refine Go.of (fun _ k => XS.l2dS X2.here hx rfl (hb hby own_ad16) rfl rfl k) ?_
    show Go p e below _ T2 (mkF m 17 #[.val (.ref a), .unset, .unset] [(.double (FP.l2d t))])
    refine Go.of (fun _ k => XS.aloadN X2.here hx rfl (hb hby own_ad17) rfl rfl k) ?_
    show Go p e below _ T2 (mkF m 18 #[.val (.ref a), .unset, .unset] [(.ref a), (.double (FP.l2d t))])
    refine Go.getf X2 hx hZ hown (hw _ (List.mem_of_getElem? (i := 12) rfl)) Via.refl e2 FD (hb hby own_ad18) fun T3 X3 e3 => ?_
    show Go p e below _ T3 (mkF m 21 #[.val (.ref a), .unset, .unset] [(.int d), (.double (FP.l2d t))])
    refine Go.of (fun _ k => XS.i2dS X3.here hx rfl (hb hby own_ad21) rfl rfl k) ?_
    show Go p e below _ T3 (mkF m 22 #[.val (.ref a), .unset, .unset] [(.double (FP.i2d d)), (.double (FP.l2d t))])
    refine Go.of (fun _ k => XS.ddivS X3.here hx rfl (hb hby own_ad22) rfl (own_avg_nn hc4) rfl k) ?_
    show Go p e below _ T3 (mkF m 23 #[.val (.ref a), .unset, .unset] [(.double (FP.ddiv (FP.l2d t) (FP.i2d d)))])
    refine Go.of (fun _ k => XS.dstoreN X3.here hx rfl (hb hby own_ad23) rfl (l' := #[.val (.ref a), .val (.double (FP.ddiv (FP.l2d t) (FP.i2d d))), .second]) rfl k) ?_
    show Go p e below _ T3 (mkF m 24 #[.val (.ref a), .val (.double (FP.ddiv (FP.l2d t) (FP.i2d d))), .second] [])
    refine Go.of (fun _ k => XS.dloadN X3.here hx rfl (hb hby own_ad24) rfl k) ?_
    show Go p e below _ T3 (mkF m 25 #[.val (.ref a), .val (.double (FP.ddiv (FP.l2d t) (FP.i2d d))), .second] [(.double (FP.ddiv (FP.l2d t) (FP.i2d d)))])
    exact Go.retD X3 hx hlk hret (hb hby own_ad25) (by decide) (by decide) ⟨congrArg (fun z => some (Value.double z)) (show (FP.ddiv (FP.l2d t) (FP.i2d d)) = own_avg d t by rw [own_avg, if_neg hc4]), rfl, e3⟩
set_option maxRecDepth 65536 in
set_option maxHeartbeats 40000000 in
theorem rm0 (l : Launch) (Z : State) (a0 : Array Value) (hw : ∀ d ∈ tables_1, d.before a0 Z = true) (ws : List Jvm.Cond) (docs terms : Int32) (tokens : Int64) (mode : Int32) (h0 : Heap)  :
    MetFree l x (head1 (Jvm.Cond.code x code maxLocals ret :: ws) room_1) (fun aa U => aa = #[(.int docs), (.int terms), (.long tokens), (.int mode)] ∧ Z.Warmed39 U.vm ∧ U.heap = h0) (fun _ _ _ _ _ => True) (fun _ U o U' => ∃ v L, o = .returned v ∧ (fun v _ L => v = some (.int 1) ∧ Fr h0.size L) v U'.heap L ∧ FrameEnd U o U' L room_1.cells room_1.slots) := by
  refine goBody (y := x) (Q := fun v _ L => v = some (.int 1) ∧ Fr h0.size L) (plainFor_of_name (by first | (simp [plainName, overriddenIn]; done) | decide +kernel)) ?_
  intro p e s m below meth c T0 hx hZ hby hml hown hnm hret hlk X0 e0
  have hown : s.vm.findClass "com/example/rorqual/rorqual/index/CollectionStatisticsAverageDocumentLengthPinLaw" = some m.cls := hown
  have hml : c.maxLocals = 15 := hml
  refine Go.cast (g' := mkF m 0 #[.val (.int docs), .val (.int terms), .val (.long tokens), .second, .val (.int mode), .unset, .unset, .unset, .unset, .unset, .unset, .unset, .unset, .unset, .unset] []) (by first | (simp [entryFrame, mkF, argsToLocals, Value.category, maxLocals]; done) | rfl) ?_
  show Go p e below _ T0 (mkF m 0 #[.val (.int docs), .val (.int terms), .val (.long tokens), .second, .val (.int mode), .unset, .unset, .unset, .unset, .unset, .unset, .unset, .unset, .unset, .unset] [])
  refine Go.of (fun _ k => XS.iloadN X0.here hx rfl (hb hby at_0) rfl k) ?_
  show Go p e below _ T0 (mkF m 1 #[.val (.int docs), .val (.int terms), .val (.long tokens), .second, .val (.int mode), .unset, .unset, .unset, .unset, .unset, .unset, .unset, .unset, .unset, .unset] [(.int terms)])
  refine Go.of (X0.ldcInt hx hown (mvT hZ (hw _ (List.mem_of_getElem? (i := 0) rfl))) (g := (mkF m 1 #[.val (.int docs), .val (.int terms), .val (.long tokens), .second, .val (.int mode), .unset, .unset, .unset, .unset, .unset, .unset, .unset, .unset, .unset, .unset] [(.int terms)])) rfl (hb hby at_1)) ?_
  show Go p e below _ T0 (mkF m 3 #[.val (.int docs), .val (.int terms), .val (.long tokens), .second, .val (.int mode), .unset, .unset, .unset, .unset, .unset, .unset, .unset, .unset, .unset, .unset] [(.int (2147483647 : Int32)), (.int terms)])
  refine Go.of (fun _ k => XS.iand X0.here hx rfl (hb hby at_3) rfl k) ?_
  show Go p e below _ T0 (mkF m 4 #[.val (.int docs), .val (.int terms), .val (.long tokens), .second, .val (.int mode), .unset, .unset, .unset, .unset, .unset, .unset, .unset, .unset, .unset, .unset] [(.int (terms &&& (2147483647 : Int32)))])
  generalize h_tc : (terms &&& (2147483647 : Int32)) = tc
  have htc := own_m31 h_tc
  refine Go.of (fun _ k => XS.istore X0.here hx rfl (hb hby at_4) rfl (l' := #[.val (.int docs), .val (.int terms), .val (.long tokens), .second, .val (.int mode), .val (.int tc), .unset, .unset, .unset, .unset, .unset, .unset, .unset, .unset, .unset]) rfl k) ?_
  show Go p e below _ T0 (mkF m 6 #[.val (.int docs), .val (.int terms), .val (.long tokens), .second, .val (.int mode), .val (.int tc), .unset, .unset, .unset, .unset, .unset, .unset, .unset, .unset, .unset] [])
  refine Go.of (fun _ k => XS.iload X0.here hx rfl (hb hby at_6) rfl k) ?_
  show Go p e below _ T0 (mkF m 8 #[.val (.int docs), .val (.int terms), .val (.long tokens), .second, .val (.int mode), .val (.int tc), .unset, .unset, .unset, .unset, .unset, .unset, .unset, .unset, .unset] [(.int mode)])
  refine Go.of (fun _ k => XS.iconst X0.here hx rfl (hb hby at_8) k) ?_
  show Go p e below _ T0 (mkF m 9 #[.val (.int docs), .val (.int terms), .val (.long tokens), .second, .val (.int mode), .val (.int tc), .unset, .unset, .unset, .unset, .unset, .unset, .unset, .unset, .unset] [(.int (1 : Int32)), (.int mode)])
  refine Go.of (fun _ k => XS.iand X0.here hx rfl (hb hby at_9) rfl k) ?_
  show Go p e below _ T0 (mkF m 10 #[.val (.int docs), .val (.int terms), .val (.long tokens), .second, .val (.int mode), .val (.int tc), .unset, .unset, .unset, .unset, .unset, .unset, .unset, .unset, .unset] [(.int (mode &&& (1 : Int32)))])
  by_cases hc10 : (mode &&& (1 : Int32)) = (0 : Int32)
  ·
    refine Go.of (fun _ k => XS.ifNo X0.here hx rfl (hb hby at_10) rfl ((if0 _ _).trans (teq hc10).2) k) ?_
    show Go p e below _ T0 (mkF m 13 #[.val (.int docs), .val (.int terms), .val (.long tokens), .second, .val (.int mode), .val (.int tc), .unset, .unset, .unset, .unset, .unset, .unset, .unset, .unset, .unset] [])
    refine Go.of (fun _ k => XS.iloadN X0.here hx rfl (hb hby at_13) rfl k) ?_
    show Go p e below _ T0 (mkF m 14 #[.val (.int docs), .val (.int terms), .val (.long tokens), .second, .val (.int mode), .val (.int tc), .unset, .unset, .unset, .unset, .unset, .unset, .unset, .unset, .unset] [(.int docs)])
    refine Go.of (X0.ldcInt hx hown (mvT hZ (hw _ (List.mem_of_getElem? (i := 1) rfl))) (g := (mkF m 14 #[.val (.int docs), .val (.int terms), .val (.long tokens), .second, .val (.int mode), .val (.int tc), .unset, .unset, .unset, .unset, .unset, .unset, .unset, .unset, .unset] [(.int docs)])) rfl (hb hby at_14)) ?_
    show Go p e below _ T0 (mkF m 16 #[.val (.int docs), .val (.int terms), .val (.long tokens), .second, .val (.int mode), .val (.int tc), .unset, .unset, .unset, .unset, .unset, .unset, .unset, .unset, .unset] [(.int (16777215 : Int32)), (.int docs)])
    refine Go.of (fun _ k => XS.iand X0.here hx rfl (hb hby at_16) rfl k) ?_
    show Go p e below _ T0 (mkF m 17 #[.val (.int docs), .val (.int terms), .val (.long tokens), .second, .val (.int mode), .val (.int tc), .unset, .unset, .unset, .unset, .unset, .unset, .unset, .unset, .unset] [(.int (docs &&& (16777215 : Int32)))])
    generalize h_hh : (docs &&& (16777215 : Int32)) = hh
    have hq1 := own_m24 h_hh
    refine Go.of (fun _ k => XS.istore X0.here hx rfl (hb hby at_17) rfl (l' := #[.val (.int docs), .val (.int terms), .val (.long tokens), .second, .val (.int mode), .val (.int tc), .val (.int hh), .unset, .unset, .unset, .unset, .unset, .unset, .unset, .unset]) rfl k) ?_
    show Go p e below _ T0 (mkF m 19 #[.val (.int docs), .val (.int terms), .val (.long tokens), .second, .val (.int mode), .val (.int tc), .val (.int hh), .unset, .unset, .unset, .unset, .unset, .unset, .unset, .unset] [])
    refine Go.of (fun _ k => XS.iload X0.here hx rfl (hb hby at_19) rfl k) ?_
    show Go p e below _ T0 (mkF m 21 #[.val (.int docs), .val (.int terms), .val (.long tokens), .second, .val (.int mode), .val (.int tc), .val (.int hh), .unset, .unset, .unset, .unset, .unset, .unset, .unset, .unset] [(.int mode)])
    refine Go.of (fun _ k => XS.iconst X0.here hx rfl (hb hby at_21) k) ?_
    show Go p e below _ T0 (mkF m 22 #[.val (.int docs), .val (.int terms), .val (.long tokens), .second, .val (.int mode), .val (.int tc), .val (.int hh), .unset, .unset, .unset, .unset, .unset, .unset, .unset, .unset] [(.int (1 : Int32)), (.int mode)])
    refine Go.of (fun _ k => XS.iushr X0.here hx rfl (hb hby at_22) rfl k) ?_
    show Go p e below _ T0 (mkF m 23 #[.val (.int docs), .val (.int terms), .val (.long tokens), .second, .val (.int mode), .val (.int tc), .val (.int hh), .unset, .unset, .unset, .unset, .unset, .unset, .unset, .unset] [(.int (XS.ushr mode (1 : Int32)))])
    refine Go.of (fun _ k => XS.bipush X0.here hx rfl (hb hby at_23) k) ?_
    show Go p e below _ T0 (mkF m 25 #[.val (.int docs), .val (.int terms), .val (.long tokens), .second, .val (.int mode), .val (.int tc), .val (.int hh), .unset, .unset, .unset, .unset, .unset, .unset, .unset, .unset] [(.int (7 : Int32)), (.int (XS.ushr mode (1 : Int32)))])
    refine Go.of (fun _ k => XS.iand X0.here hx rfl (hb hby at_25) rfl k) ?_
    show Go p e below _ T0 (mkF m 26 #[.val (.int docs), .val (.int terms), .val (.long tokens), .second, .val (.int mode), .val (.int tc), .val (.int hh), .unset, .unset, .unset, .unset, .unset, .unset, .unset, .unset] [(.int ((XS.ushr mode (1 : Int32)) &&& (7 : Int32)))])
    generalize h_kk : ((XS.ushr mode (1 : Int32)) &&& (7 : Int32)) = kk
    have hq2 := own_m3 h_kk
    refine Go.of (fun _ k => XS.istore X0.here hx rfl (hb hby at_26) rfl (l' := #[.val (.int docs), .val (.int terms), .val (.long tokens), .second, .val (.int mode), .val (.int tc), .val (.int hh), .val (.int kk), .unset, .unset, .unset, .unset, .unset, .unset, .unset]) rfl k) ?_
    show Go p e below _ T0 (mkF m 28 #[.val (.int docs), .val (.int terms), .val (.long tokens), .second, .val (.int mode), .val (.int tc), .val (.int hh), .val (.int kk), .unset, .unset, .unset, .unset, .unset, .unset, .unset] [])
    refine Go.of (fun _ k => XS.lloadN X0.here hx rfl (hb hby at_28) rfl k) ?_
    show Go p e below _ T0 (mkF m 29 #[.val (.int docs), .val (.int terms), .val (.long tokens), .second, .val (.int mode), .val (.int tc), .val (.int hh), .val (.int kk), .unset, .unset, .unset, .unset, .unset, .unset, .unset] [(.long tokens)])
    refine Go.of (X0.ldc2Long hx hown (mvT hZ (hw _ (List.mem_of_getElem? (i := 2) rfl))) (g := (mkF m 29 #[.val (.int docs), .val (.int terms), .val (.long tokens), .second, .val (.int mode), .val (.int tc), .val (.int hh), .val (.int kk), .unset, .unset, .unset, .unset, .unset, .unset, .unset] [(.long tokens)])) rfl (hb hby at_29)) ?_
    show Go p e below _ T0 (mkF m 32 #[.val (.int docs), .val (.int terms), .val (.long tokens), .second, .val (.int mode), .val (.int tc), .val (.int hh), .val (.int kk), .unset, .unset, .unset, .unset, .unset, .unset, .unset] [(.long (4194303 : Int64)), (.long tokens)])
    refine Go.of (fun _ k => XS.land X0.here hx rfl (hb hby at_32) rfl k) ?_
    show Go p e below _ T0 (mkF m 33 #[.val (.int docs), .val (.int terms), .val (.long tokens), .second, .val (.int mode), .val (.int tc), .val (.int hh), .val (.int kk), .unset, .unset, .unset, .unset, .unset, .unset, .unset] [(.long (tokens &&& (4194303 : Int64)))])
    generalize h_nn : (tokens &&& (4194303 : Int64)) = nn
    have hq3 := own_m22 h_nn
    refine Go.of (fun _ k => XS.lstore X0.here hx rfl (hb hby at_33) rfl (l' := #[.val (.int docs), .val (.int terms), .val (.long tokens), .second, .val (.int mode), .val (.int tc), .val (.int hh), .val (.int kk), .val (.long nn), .second, .unset, .unset, .unset, .unset, .unset]) rfl k) ?_
    show Go p e below _ T0 (mkF m 35 #[.val (.int docs), .val (.int terms), .val (.long tokens), .second, .val (.int mode), .val (.int tc), .val (.int hh), .val (.int kk), .val (.long nn), .second, .unset, .unset, .unset, .unset, .unset] [])
    refine Go.of (fun _ k => XS.iload X0.here hx rfl (hb hby at_35) rfl k) ?_
    show Go p e below _ T0 (mkF m 37 #[.val (.int docs), .val (.int terms), .val (.long tokens), .second, .val (.int mode), .val (.int tc), .val (.int hh), .val (.int kk), .val (.long nn), .second, .unset, .unset, .unset, .unset, .unset] [(.int hh)])
    refine Go.of (fun _ k => XS.iload X0.here hx rfl (hb hby at_37) rfl k) ?_
    show Go p e below _ T0 (mkF m 39 #[.val (.int docs), .val (.int terms), .val (.long tokens), .second, .val (.int mode), .val (.int tc), .val (.int hh), .val (.int kk), .val (.long nn), .second, .unset, .unset, .unset, .unset, .unset] [(.int kk), (.int hh)])
    refine Go.of (fun _ k => XS.ishl X0.here hx rfl (hb hby at_39) rfl k) ?_
    show Go p e below _ T0 (mkF m 40 #[.val (.int docs), .val (.int terms), .val (.long tokens), .second, .val (.int mode), .val (.int tc), .val (.int hh), .val (.int kk), .val (.long nn), .second, .unset, .unset, .unset, .unset, .unset] [(.int (hh <<< (kk &&& 31)))])
    refine Go.of (fun _ k => XS.istore X0.here hx rfl (hb hby at_40) rfl (l' := #[.val (.int docs), .val (.int terms), .val (.long tokens), .second, .val (.int mode), .val (.int tc), .val (.int hh), .val (.int kk), .val (.long nn), .second, .val (.int (hh <<< (kk &&& 31))), .unset, .unset, .unset, .unset]) rfl k) ?_
    show Go p e below _ T0 (mkF m 42 #[.val (.int docs), .val (.int terms), .val (.long tokens), .second, .val (.int mode), .val (.int tc), .val (.int hh), .val (.int kk), .val (.long nn), .second, .val (.int (hh <<< (kk &&& 31))), .unset, .unset, .unset, .unset] [])
    refine Go.of (fun _ k => XS.lload X0.here hx rfl (hb hby at_42) rfl k) ?_
    show Go p e below _ T0 (mkF m 44 #[.val (.int docs), .val (.int terms), .val (.long tokens), .second, .val (.int mode), .val (.int tc), .val (.int hh), .val (.int kk), .val (.long nn), .second, .val (.int (hh <<< (kk &&& 31))), .unset, .unset, .unset, .unset] [(.long nn)])
    refine Go.of (fun _ k => XS.iload X0.here hx rfl (hb hby at_44) rfl k) ?_
    show Go p e below _ T0 (mkF m 46 #[.val (.int docs), .val (.int terms), .val (.long tokens), .second, .val (.int mode), .val (.int tc), .val (.int hh), .val (.int kk), .val (.long nn), .second, .val (.int (hh <<< (kk &&& 31))), .unset, .unset, .unset, .unset] [(.int hh), (.long nn)])
    refine Go.of (fun _ k => XS.i2l X0.here hx rfl (hb hby at_46) rfl k) ?_
    show Go p e below _ T0 (mkF m 47 #[.val (.int docs), .val (.int terms), .val (.long tokens), .second, .val (.int mode), .val (.int tc), .val (.int hh), .val (.int kk), .val (.long nn), .second, .val (.int (hh <<< (kk &&& 31))), .unset, .unset, .unset, .unset] [(.long (hh.toInt64)), (.long nn)])
    refine Go.of (fun _ k => XS.lmul X0.here hx rfl (hb hby at_47) rfl k) ?_
    show Go p e below _ T0 (mkF m 48 #[.val (.int docs), .val (.int terms), .val (.long tokens), .second, .val (.int mode), .val (.int tc), .val (.int hh), .val (.int kk), .val (.long nn), .second, .val (.int (hh <<< (kk &&& 31))), .unset, .unset, .unset, .unset] [(.long (nn * (hh.toInt64)))])
    refine Go.of (fun _ k => XS.lstore X0.here hx rfl (hb hby at_48) rfl (l' := #[.val (.int docs), .val (.int terms), .val (.long tokens), .second, .val (.int mode), .val (.int tc), .val (.int hh), .val (.int kk), .val (.long nn), .second, .val (.int (hh <<< (kk &&& 31))), .val (.long (nn * (hh.toInt64))), .second, .unset, .unset]) rfl k) ?_
    show Go p e below _ T0 (mkF m 50 #[.val (.int docs), .val (.int terms), .val (.long tokens), .second, .val (.int mode), .val (.int tc), .val (.int hh), .val (.int kk), .val (.long nn), .second, .val (.int (hh <<< (kk &&& 31))), .val (.long (nn * (hh.toInt64))), .second, .unset, .unset] [])
    refine Go.new X0 hx hZ hown (hw _ (List.mem_of_getElem? (i := 3) rfl)) (hw _ (List.mem_of_getElem? (i := 4) rfl)) (hw _ (List.mem_of_getElem? (i := 5) rfl)) e0 (hb hby at_50) (by decide) (by decide) fun T1 h1 b1 g1 X1 e1 E1 A1 D1 => ?_
    have ge_b1 : h0.size ≤ b1 := g1 ▸ (Nat.le_refl _)
    have sz1 : h0.size ≤ h1.size := Nat.le_trans (Nat.le_refl _) E1.1
    have F1_documentCount : Fld Z h1 b1 "com/example/rorqual/rorqual/index/CollectionStatistics" "documentCount" "I" (.int (0 : Int32)) := D1 (Or.inr (hw _ (List.mem_of_getElem? (i := 13) rfl))) (ty := .int) (by decide)
    have F1_termCount : Fld Z h1 b1 "com/example/rorqual/rorqual/index/CollectionStatistics" "termCount" "I" (.int (0 : Int32)) := D1 (Or.inr (hw _ (List.mem_of_getElem? (i := 15) rfl))) (ty := .int) (by decide)
    have F1_tokenCount : Fld Z h1 b1 "com/example/rorqual/rorqual/index/CollectionStatistics" "tokenCount" "J" (.long (0 : Int64)) := D1 (Or.inr (hw _ (List.mem_of_getElem? (i := 17) rfl))) (ty := .long) (by decide)
    show Go p e below _ T1 (mkF m 53 #[.val (.int docs), .val (.int terms), .val (.long tokens), .second, .val (.int mode), .val (.int tc), .val (.int hh), .val (.int kk), .val (.long nn), .second, .val (.int (hh <<< (kk &&& 31))), .val (.long (nn * (hh.toInt64))), .second, .unset, .unset] [(.ref b1)])
    refine Go.of (fun _ k => XS.dup X1.here hx rfl (hb hby at_53) rfl rfl k) ?_
    show Go p e below _ T1 (mkF m 54 #[.val (.int docs), .val (.int terms), .val (.long tokens), .second, .val (.int mode), .val (.int tc), .val (.int hh), .val (.int kk), .val (.long nn), .second, .val (.int (hh <<< (kk &&& 31))), .val (.long (nn * (hh.toInt64))), .second, .unset, .unset] [(.ref b1), (.ref b1)])
    refine Go.of (fun _ k => XS.iload X1.here hx rfl (hb hby at_54) rfl k) ?_
    show Go p e below _ T1 (mkF m 56 #[.val (.int docs), .val (.int terms), .val (.long tokens), .second, .val (.int mode), .val (.int tc), .val (.int hh), .val (.int kk), .val (.long nn), .second, .val (.int (hh <<< (kk &&& 31))), .val (.long (nn * (hh.toInt64))), .second, .unset, .unset] [(.int (hh <<< (kk &&& 31))), (.ref b1), (.ref b1)])
    refine Go.of (fun _ k => XS.iload X1.here hx rfl (hb hby at_56) rfl k) ?_
    show Go p e below _ T1 (mkF m 58 #[.val (.int docs), .val (.int terms), .val (.long tokens), .second, .val (.int mode), .val (.int tc), .val (.int hh), .val (.int kk), .val (.long nn), .second, .val (.int (hh <<< (kk &&& 31))), .val (.long (nn * (hh.toInt64))), .second, .unset, .unset] [(.int tc), (.int (hh <<< (kk &&& 31))), (.ref b1), (.ref b1)])
    refine Go.of (fun _ k => XS.lload X1.here hx rfl (hb hby at_58) rfl k) ?_
    show Go p e below _ T1 (mkF m 60 #[.val (.int docs), .val (.int terms), .val (.long tokens), .second, .val (.int mode), .val (.int tc), .val (.int hh), .val (.int kk), .val (.long nn), .second, .val (.int (hh <<< (kk &&& 31))), .val (.long (nn * (hh.toInt64))), .second, .unset, .unset] [(.long (nn * (hh.toInt64))), (.int tc), (.int (hh <<< (kk &&& 31))), (.ref b1), (.ref b1)])
    refine Go.callI (W := 1) (y := (⟨"com/example/rorqual/rorqual/index/CollectionStatistics", "<init>", "(IIJ)V"⟩ : MethodName)) (a := b1) (argsL := [(.int (hh <<< (kk &&& 31))), (.int tc), (.long (nn * (hh.toInt64)))]) (rest := [(.ref b1)]) X1 hx hZ rfl hown (hw _ (List.mem_of_getElem? (i := 6) rfl)) (hw _ (List.mem_of_getElem? (i := 7) rfl)) (hw _ (List.mem_of_getElem? (i := 5) rfl)) (hw _ (List.mem_of_getElem? (i := 8) rfl)) (by decide) (own_rmI l Z a0 hw b1 (hh <<< (kk &&& 31)) tc (nn * (hh.toInt64)) h0.size h1 sz1 ge_b1 (own_dpos hq1 hq2) (own_nn htc) (own_cmpL_nn (own_tpos hq1 hq3)) A1 F1_documentCount F1_termCount F1_tokenCount) e1 (by rw [hml]; rfl) (lenOf own_dsc0 rfl) (hb hby at_60) rfl (Nat.le_of_eq rfl) (by decide) (by decide) (by decide) (by decide) fun _ T2 L2 X2 q2 => ?_
    obtain ⟨rfl, N2q, K2, A2, FD2, FT2⟩ := q2
    have N2 := Fr.app (Fr.nil _) N2q
    have sz2 : h0.size ≤ T2.heap.size := Nat.le_trans sz1 K2.1
    show Go p e below _ T2 (mkF m 63 #[.val (.int docs), .val (.int terms), .val (.long tokens), .second, .val (.int mode), .val (.int tc), .val (.int hh), .val (.int kk), .val (.long nn), .second, .val (.int (hh <<< (kk &&& 31))), .val (.long (nn * (hh.toInt64))), .second, .unset, .unset] [(.ref b1)])
    refine Go.callVP (W := 0) (y := (⟨"com/example/rorqual/rorqual/index/CollectionStatistics", "averageDocumentLength", "()D"⟩ : MethodName)) (z := (⟨"com/example/rorqual/rorqual/index/CollectionStatistics", "averageDocumentLength", "()D"⟩ : MethodName)) (a := b1) (argsL := []) (rest := []) (r := some (.double (own_avg (hh <<< (kk &&& 31)) (nn * (hh.toInt64))))) X2 hx hZ hown (hw _ (List.mem_of_getElem? (i := 18) rfl)) (hw _ (List.mem_of_getElem? (i := 19) rfl)) (notFace_of_selects (args := #[]) (mvT hZ (hw _ (List.mem_of_getElem? (i := 21) rfl)))) (hw _ (List.mem_of_getElem? (i := 21) rfl)) (hw _ (List.mem_of_getElem? (i := 20) rfl)) (hw _ (List.mem_of_getElem? (i := 5) rfl)) (hw _ (List.mem_of_getElem? (i := 22) rfl)) (by decide) (own_rmA l Z a0 hw b1 (hh <<< (kk &&& 31)) (nn * (hh.toInt64)) T2.heap FD2 FT2) rfl A2 (by rw [hml]; rfl) (lenOf own_dsc1 rfl) (hb hby at_63) rfl (Nat.le_of_eq rfl) (by decide) (by decide) (by decide) (by decide) fun T3 X3 e3 => ?_
    show Go p e below _ T3 (mkF m 66 #[.val (.int docs), .val (.int terms), .val (.long tokens), .second, .val (.int mode), .val (.int tc), .val (.int hh), .val (.int kk), .val (.long nn), .second, .val (.int (hh <<< (kk &&& 31))), .val (.long (nn * (hh.toInt64))), .second, .unset, .unset] [(.double (own_avg (hh <<< (kk &&& 31)) (nn * (hh.toInt64))))])
    refine Go.of (fun _ k => XS.dstore X3.here hx rfl (hb hby at_66) rfl (l' := #[.val (.int docs), .val (.int terms), .val (.long tokens), .second, .val (.int mode), .val (.int tc), .val (.int hh), .val (.int kk), .val (.long nn), .second, .val (.int (hh <<< (kk &&& 31))), .val (.long (nn * (hh.toInt64))), .second, .val (.double (own_avg (hh <<< (kk &&& 31)) (nn * (hh.toInt64)))), .second]) rfl k) ?_
    show Go p e below _ T3 (mkF m 68 #[.val (.int docs), .val (.int terms), .val (.long tokens), .second, .val (.int mode), .val (.int tc), .val (.int hh), .val (.int kk), .val (.long nn), .second, .val (.int (hh <<< (kk &&& 31))), .val (.long (nn * (hh.toInt64))), .second, .val (.double (own_avg (hh <<< (kk &&& 31)) (nn * (hh.toInt64)))), .second] [])
    refine Go.of (fun _ k => XS.iload X3.here hx rfl (hb hby at_68) rfl k) ?_
    show Go p e below _ T3 (mkF m 70 #[.val (.int docs), .val (.int terms), .val (.long tokens), .second, .val (.int mode), .val (.int tc), .val (.int hh), .val (.int kk), .val (.long nn), .second, .val (.int (hh <<< (kk &&& 31))), .val (.long (nn * (hh.toInt64))), .second, .val (.double (own_avg (hh <<< (kk &&& 31)) (nn * (hh.toInt64)))), .second] [(.int hh)])
    by_cases hc70 : hh = (0 : Int32)
    ·
      refine Go.of (fun _ k => XS.ifNo X3.here hx rfl (hb hby at_70) rfl ((if0 _ _).trans (teq hc70).2) k) ?_
      show Go p e below _ T3 (mkF m 73 #[.val (.int docs), .val (.int terms), .val (.long tokens), .second, .val (.int mode), .val (.int tc), .val (.int hh), .val (.int kk), .val (.long nn), .second, .val (.int (hh <<< (kk &&& 31))), .val (.long (nn * (hh.toInt64))), .second, .val (.double (own_avg (hh <<< (kk &&& 31)) (nn * (hh.toInt64)))), .second] [])
      refine Go.of (fun _ k => XS.dload X3.here hx rfl (hb hby at_73) rfl k) ?_
      show Go p e below _ T3 (mkF m 75 #[.val (.int docs), .val (.int terms), .val (.long tokens), .second, .val (.int mode), .val (.int tc), .val (.int hh), .val (.int kk), .val (.long nn), .second, .val (.int (hh <<< (kk &&& 31))), .val (.long (nn * (hh.toInt64))), .second, .val (.double (own_avg (hh <<< (kk &&& 31)) (nn * (hh.toInt64)))), .second] [(.double (own_avg (hh <<< (kk &&& 31)) (nn * (hh.toInt64))))])
      refine Go.of (fun _ k => XS.dconst0 X3.here hx rfl (hb hby at_75) (v := 0) (by decide +kernel) k) ?_
      show Go p e below _ T3 (mkF m 76 #[.val (.int docs), .val (.int terms), .val (.long tokens), .second, .val (.int mode), .val (.int tc), .val (.int hh), .val (.int kk), .val (.long nn), .second, .val (.int (hh <<< (kk &&& 31))), .val (.long (nn * (hh.toInt64))), .second, .val (.double (own_avg (hh <<< (kk &&& 31)) (nn * (hh.toInt64)))), .second] [(.double (0 : UInt64)), (.double (own_avg (hh <<< (kk &&& 31)) (nn * (hh.toInt64))))])
      refine Go.of (fun _ k => XS.dcmpS X3.here hx rfl (hb hby at_76) rfl rfl k) ?_
      show Go p e below _ T3 (mkF m 77 #[.val (.int docs), .val (.int terms), .val (.long tokens), .second, .val (.int mode), .val (.int tc), .val (.int hh), .val (.int kk), .val (.long nn), .second, .val (.int (hh <<< (kk &&& 31))), .val (.long (nn * (hh.toInt64))), .second, .val (.double (own_avg (hh <<< (kk &&& 31)) (nn * (hh.toInt64)))), .second] [(.int (cmpValue (FP.dcmp (own_avg (hh <<< (kk &&& 31)) (nn * (hh.toInt64))) (0 : UInt64)) .l))])
      refine Go.of (fun _ k => XS.ifNo X3.here hx rfl (hb hby at_77) rfl ((if0 _ _).trans (teq (by rw [own_avg0 hc70]; exact own_zero _ : (cmpValue (FP.dcmp (own_avg (hh <<< (kk &&& 31)) (nn * (hh.toInt64))) (0 : UInt64)) .l) = (0 : Int32))).2) k) ?_
      show Go p e below _ T3 (mkF m 80 #[.val (.int docs), .val (.int terms), .val (.long tokens), .second, .val (.int mode), .val (.int tc), .val (.int hh), .val (.int kk), .val (.long nn), .second, .val (.int (hh <<< (kk &&& 31))), .val (.long (nn * (hh.toInt64))), .second, .val (.double (own_avg (hh <<< (kk &&& 31)) (nn * (hh.toInt64)))), .second] [])
      refine Go.of (fun _ k => XS.iconst X3.here hx rfl (hb hby at_80) k) ?_
      show Go p e below _ T3 (mkF m 81 #[.val (.int docs), .val (.int terms), .val (.long tokens), .second, .val (.int mode), .val (.int tc), .val (.int hh), .val (.int kk), .val (.long nn), .second, .val (.int (hh <<< (kk &&& 31))), .val (.long (nn * (hh.toInt64))), .second, .val (.double (own_avg (hh <<< (kk &&& 31)) (nn * (hh.toInt64)))), .second] [(.int (1 : Int32))])
      refine Go.of (fun _ k => XS.goto X3.here hx rfl (pc0 := 81) (pc' := 85) rfl (hb hby at_81) (by decide) (by decide) k) ?_
      show Go p e below _ T3 (mkF m 85 #[.val (.int docs), .val (.int terms), .val (.long tokens), .second, .val (.int mode), .val (.int tc), .val (.int hh), .val (.int kk), .val (.long nn), .second, .val (.int (hh <<< (kk &&& 31))), .val (.long (nn * (hh.toInt64))), .second, .val (.double (own_avg (hh <<< (kk &&& 31)) (nn * (hh.toInt64)))), .second] [(.int (1 : Int32))])
      exact Go.retN X3 hx hlk (t := .boolean) hret (by simp) (hb hby at_85) (by decide) (by decide) ⟨rfl, N2⟩
    ·
      refine Go.of (fun _ k => XS.ifYes X3.here hx rfl (pc0 := 70) (pc' := 86) rfl (hb hby at_70) rfl ((if0 _ _).trans (feq hc70).2) (by decide) (by decide) k) ?_
      show Go p e below _ T3 (mkF m 86 #[.val (.int docs), .val (.int terms), .val (.long tokens), .second, .val (.int mode), .val (.int tc), .val (.int hh), .val (.int kk), .val (.long nn), .second, .val (.int (hh <<< (kk &&& 31))), .val (.long (nn * (hh.toInt64))), .second, .val (.double (own_avg (hh <<< (kk &&& 31)) (nn * (hh.toInt64)))), .second] [])
      refine Go.of (fun _ k => XS.dload X3.here hx rfl (hb hby at_86) rfl k) ?_
      show Go p e below _ T3 (mkF m 88 #[.val (.int docs), .val (.int terms), .val (.long tokens), .second, .val (.int mode), .val (.int tc), .val (.int hh), .val (.int kk), .val (.long nn), .second, .val (.int (hh <<< (kk &&& 31))), .val (.long (nn * (hh.toInt64))), .second, .val (.double (own_avg (hh <<< (kk &&& 31)) (nn * (hh.toInt64)))), .second] [(.double (own_avg (hh <<< (kk &&& 31)) (nn * (hh.toInt64))))])
      refine Go.of (fun _ k => XS.iconst X3.here hx rfl (hb hby at_88) k) ?_
      show Go p e below _ T3 (mkF m 89 #[.val (.int docs), .val (.int terms), .val (.long tokens), .second, .val (.int mode), .val (.int tc), .val (.int hh), .val (.int kk), .val (.long nn), .second, .val (.int (hh <<< (kk &&& 31))), .val (.long (nn * (hh.toInt64))), .second, .val (.double (own_avg (hh <<< (kk &&& 31)) (nn * (hh.toInt64)))), .second] [(.int (1 : Int32)), (.double (own_avg (hh <<< (kk &&& 31)) (nn * (hh.toInt64))))])
      refine Go.of (fun _ k => XS.iload X3.here hx rfl (hb hby at_89) rfl k) ?_
      show Go p e below _ T3 (mkF m 91 #[.val (.int docs), .val (.int terms), .val (.long tokens), .second, .val (.int mode), .val (.int tc), .val (.int hh), .val (.int kk), .val (.long nn), .second, .val (.int (hh <<< (kk &&& 31))), .val (.long (nn * (hh.toInt64))), .second, .val (.double (own_avg (hh <<< (kk &&& 31)) (nn * (hh.toInt64)))), .second] [(.int kk), (.int (1 : Int32)), (.double (own_avg (hh <<< (kk &&& 31)) (nn * (hh.toInt64))))])
      refine Go.of (fun _ k => XS.ishl X3.here hx rfl (hb hby at_91) rfl k) ?_
      show Go p e below _ T3 (mkF m 92 #[.val (.int docs), .val (.int terms), .val (.long tokens), .second, .val (.int mode), .val (.int tc), .val (.int hh), .val (.int kk), .val (.long nn), .second, .val (.int (hh <<< (kk &&& 31))), .val (.long (nn * (hh.toInt64))), .second, .val (.double (own_avg (hh <<< (kk &&& 31)) (nn * (hh.toInt64)))), .second] [(.int ((1 : Int32) <<< (kk &&& 31))), (.double (own_avg (hh <<< (kk &&& 31)) (nn * (hh.toInt64))))])
      refine Go.of (fun _ k => XS.i2dS X3.here hx rfl (hb hby at_92) rfl rfl k) ?_
      show Go p e below _ T3 (mkF m 93 #[.val (.int docs), .val (.int terms), .val (.long tokens), .second, .val (.int mode), .val (.int tc), .val (.int hh), .val (.int kk), .val (.long nn), .second, .val (.int (hh <<< (kk &&& 31))), .val (.long (nn * (hh.toInt64))), .second, .val (.double (own_avg (hh <<< (kk &&& 31)) (nn * (hh.toInt64)))), .second] [(.double (FP.i2d ((1 : Int32) <<< (kk &&& 31)))), (.double (own_avg (hh <<< (kk &&& 31)) (nn * (hh.toInt64))))])
      refine Go.of (fun _ k => XS.dmulS X3.here hx rfl (hb hby at_93) rfl (own_even hq1.1 hq2.1 hq3.1 hq1.2 hq2.2 hq3.2 hc70 .l).2 rfl k) ?_
      show Go p e below _ T3 (mkF m 94 #[.val (.int docs), .val (.int terms), .val (.long tokens), .second, .val (.int mode), .val (.int tc), .val (.int hh), .val (.int kk), .val (.long nn), .second, .val (.int (hh <<< (kk &&& 31))), .val (.long (nn * (hh.toInt64))), .second, .val (.double (own_avg (hh <<< (kk &&& 31)) (nn * (hh.toInt64)))), .second] [(.double (FP.dmul (own_avg (hh <<< (kk &&& 31)) (nn * (hh.toInt64))) (FP.i2d ((1 : Int32) <<< (kk &&& 31)))))])
      refine Go.of (fun _ k => XS.lload X3.here hx rfl (hb hby at_94) rfl k) ?_
      show Go p e below _ T3 (mkF m 96 #[.val (.int docs), .val (.int terms), .val (.long tokens), .second, .val (.int mode), .val (.int tc), .val (.int hh), .val (.int kk), .val (.long nn), .second, .val (.int (hh <<< (kk &&& 31))), .val (.long (nn * (hh.toInt64))), .second, .val (.double (own_avg (hh <<< (kk &&& 31)) (nn * (hh.toInt64)))), .second] [(.long nn), (.double (FP.dmul (own_avg (hh <<< (kk &&& 31)) (nn * (hh.toInt64))) (FP.i2d ((1 : Int32) <<< (kk &&& 31)))))])
      refine Go.of (fun _ k => XS.l2dS X3.here hx rfl (hb hby at_96) rfl rfl k) ?_
      show Go p e below _ T3 (mkF m 97 #[.val (.int docs), .val (.int terms), .val (.long tokens), .second, .val (.int mode), .val (.int tc), .val (.int hh), .val (.int kk), .val (.long nn), .second, .val (.int (hh <<< (kk &&& 31))), .val (.long (nn * (hh.toInt64))), .second, .val (.double (own_avg (hh <<< (kk &&& 31)) (nn * (hh.toInt64)))), .second] [(.double (FP.l2d nn)), (.double (FP.dmul (own_avg (hh <<< (kk &&& 31)) (nn * (hh.toInt64))) (FP.i2d ((1 : Int32) <<< (kk &&& 31)))))])
      refine Go.of (fun _ k => XS.dcmpS X3.here hx rfl (hb hby at_97) rfl rfl k) ?_
      show Go p e below _ T3 (mkF m 98 #[.val (.int docs), .val (.int terms), .val (.long tokens), .second, .val (.int mode), .val (.int tc), .val (.int hh), .val (.int kk), .val (.long nn), .second, .val (.int (hh <<< (kk &&& 31))), .val (.long (nn * (hh.toInt64))), .second, .val (.double (own_avg (hh <<< (kk &&& 31)) (nn * (hh.toInt64)))), .second] [(.int (cmpValue (FP.dcmp (FP.dmul (own_avg (hh <<< (kk &&& 31)) (nn * (hh.toInt64))) (FP.i2d ((1 : Int32) <<< (kk &&& 31)))) (FP.l2d nn)) .l))])
      refine Go.of (fun _ k => XS.ifNo X3.here hx rfl (hb hby at_98) rfl ((if0 _ _).trans (teq ((own_even hq1.1 hq2.1 hq3.1 hq1.2 hq2.2 hq3.2 hc70 .l).1 : (cmpValue (FP.dcmp (FP.dmul (own_avg (hh <<< (kk &&& 31)) (nn * (hh.toInt64))) (FP.i2d ((1 : Int32) <<< (kk &&& 31)))) (FP.l2d nn)) .l) = (0 : Int32))).2) k) ?_
      show Go p e below _ T3 (mkF m 101 #[.val (.int docs), .val (.int terms), .val (.long tokens), .second, .val (.int mode), .val (.int tc), .val (.int hh), .val (.int kk), .val (.long nn), .second, .val (.int (hh <<< (kk &&& 31))), .val (.long (nn * (hh.toInt64))), .second, .val (.double (own_avg (hh <<< (kk &&& 31)) (nn * (hh.toInt64)))), .second] [])
      refine Go.of (fun _ k => XS.iconst X3.here hx rfl (hb hby at_101) k) ?_
      show Go p e below _ T3 (mkF m 102 #[.val (.int docs), .val (.int terms), .val (.long tokens), .second, .val (.int mode), .val (.int tc), .val (.int hh), .val (.int kk), .val (.long nn), .second, .val (.int (hh <<< (kk &&& 31))), .val (.long (nn * (hh.toInt64))), .second, .val (.double (own_avg (hh <<< (kk &&& 31)) (nn * (hh.toInt64)))), .second] [(.int (1 : Int32))])
      refine Go.of (fun _ k => XS.goto X3.here hx rfl (pc0 := 102) (pc' := 106) rfl (hb hby at_102) (by decide) (by decide) k) ?_
      show Go p e below _ T3 (mkF m 106 #[.val (.int docs), .val (.int terms), .val (.long tokens), .second, .val (.int mode), .val (.int tc), .val (.int hh), .val (.int kk), .val (.long nn), .second, .val (.int (hh <<< (kk &&& 31))), .val (.long (nn * (hh.toInt64))), .second, .val (.double (own_avg (hh <<< (kk &&& 31)) (nn * (hh.toInt64)))), .second] [(.int (1 : Int32))])
      exact Go.retN X3 hx hlk (t := .boolean) hret (by simp) (hb hby at_106) (by decide) (by decide) ⟨rfl, N2⟩
  ·
    refine Go.of (fun _ k => XS.ifYes X0.here hx rfl (pc0 := 10) (pc' := 107) rfl (hb hby at_10) rfl ((if0 _ _).trans (feq hc10).2) (by decide) (by decide) k) ?_
    show Go p e below _ T0 (mkF m 107 #[.val (.int docs), .val (.int terms), .val (.long tokens), .second, .val (.int mode), .val (.int tc), .unset, .unset, .unset, .unset, .unset, .unset, .unset, .unset, .unset] [])
    refine Go.of (fun _ k => XS.iloadN X0.here hx rfl (hb hby at_107) rfl k) ?_
    show Go p e below _ T0 (mkF m 108 #[.val (.int docs), .val (.int terms), .val (.long tokens), .second, .val (.int mode), .val (.int tc), .unset, .unset, .unset, .unset, .unset, .unset, .unset, .unset, .unset] [(.int docs)])
    refine Go.of (X0.ldcInt hx hown (mvT hZ (hw _ (List.mem_of_getElem? (i := 0) rfl))) (g := (mkF m 108 #[.val (.int docs), .val (.int terms), .val (.long tokens), .second, .val (.int mode), .val (.int tc), .unset, .unset, .unset, .unset, .unset, .unset, .unset, .unset, .unset] [(.int docs)])) rfl (hb hby at_108)) ?_
    show Go p e below _ T0 (mkF m 110 #[.val (.int docs), .val (.int terms), .val (.long tokens), .second, .val (.int mode), .val (.int tc), .unset, .unset, .unset, .unset, .unset, .unset, .unset, .unset, .unset] [(.int (2147483647 : Int32)), (.int docs)])
    refine Go.of (fun _ k => XS.iand X0.here hx rfl (hb hby at_110) rfl k) ?_
    show Go p e below _ T0 (mkF m 111 #[.val (.int docs), .val (.int terms), .val (.long tokens), .second, .val (.int mode), .val (.int tc), .unset, .unset, .unset, .unset, .unset, .unset, .unset, .unset, .unset] [(.int (docs &&& (2147483647 : Int32)))])
    generalize h_dd : (docs &&& (2147483647 : Int32)) = dd
    have hq1 := own_m31 h_dd
    refine Go.of (fun _ k => XS.istore X0.here hx rfl (hb hby at_111) rfl (l' := #[.val (.int docs), .val (.int terms), .val (.long tokens), .second, .val (.int mode), .val (.int tc), .val (.int dd), .unset, .unset, .unset, .unset, .unset, .unset, .unset, .unset]) rfl k) ?_
    show Go p e below _ T0 (mkF m 113 #[.val (.int docs), .val (.int terms), .val (.long tokens), .second, .val (.int mode), .val (.int tc), .val (.int dd), .unset, .unset, .unset, .unset, .unset, .unset, .unset, .unset] [])
    refine Go.of (fun _ k => XS.lloadN X0.here hx rfl (hb hby at_113) rfl k) ?_
    show Go p e below _ T0 (mkF m 114 #[.val (.int docs), .val (.int terms), .val (.long tokens), .second, .val (.int mode), .val (.int tc), .val (.int dd), .unset, .unset, .unset, .unset, .unset, .unset, .unset, .unset] [(.long tokens)])
    refine Go.of (X0.ldc2Long hx hown (mvT hZ (hw _ (List.mem_of_getElem? (i := 23) rfl))) (g := (mkF m 114 #[.val (.int docs), .val (.int terms), .val (.long tokens), .second, .val (.int mode), .val (.int tc), .val (.int dd), .unset, .unset, .unset, .unset, .unset, .unset, .unset, .unset] [(.long tokens)])) rfl (hb hby at_114)) ?_
    show Go p e below _ T0 (mkF m 117 #[.val (.int docs), .val (.int terms), .val (.long tokens), .second, .val (.int mode), .val (.int tc), .val (.int dd), .unset, .unset, .unset, .unset, .unset, .unset, .unset, .unset] [(.long (9223372036854775807 : Int64)), (.long tokens)])
    refine Go.of (fun _ k => XS.land X0.here hx rfl (hb hby at_117) rfl k) ?_
    show Go p e below _ T0 (mkF m 118 #[.val (.int docs), .val (.int terms), .val (.long tokens), .second, .val (.int mode), .val (.int tc), .val (.int dd), .unset, .unset, .unset, .unset, .unset, .unset, .unset, .unset] [(.long (tokens &&& (9223372036854775807 : Int64)))])
    generalize h_tt : (tokens &&& (9223372036854775807 : Int64)) = tt
    have hq2 := own_m63 h_tt
    refine Go.of (fun _ k => XS.lstore X0.here hx rfl (hb hby at_118) rfl (l' := #[.val (.int docs), .val (.int terms), .val (.long tokens), .second, .val (.int mode), .val (.int tc), .val (.int dd), .val (.long tt), .second, .unset, .unset, .unset, .unset, .unset, .unset]) rfl k) ?_
    show Go p e below _ T0 (mkF m 120 #[.val (.int docs), .val (.int terms), .val (.long tokens), .second, .val (.int mode), .val (.int tc), .val (.int dd), .val (.long tt), .second, .unset, .unset, .unset, .unset, .unset, .unset] [])
    refine Go.new X0 hx hZ hown (hw _ (List.mem_of_getElem? (i := 3) rfl)) (hw _ (List.mem_of_getElem? (i := 4) rfl)) (hw _ (List.mem_of_getElem? (i := 5) rfl)) e0 (hb hby at_120) (by decide) (by decide) fun T4 h4 b4 g4 X4 e4 E4 A4 D4 => ?_
    have ge_b4 : h0.size ≤ b4 := g4 ▸ (Nat.le_refl _)
    have sz4 : h0.size ≤ h4.size := Nat.le_trans (Nat.le_refl _) E4.1
    have F4_documentCount : Fld Z h4 b4 "com/example/rorqual/rorqual/index/CollectionStatistics" "documentCount" "I" (.int (0 : Int32)) := D4 (Or.inr (hw _ (List.mem_of_getElem? (i := 13) rfl))) (ty := .int) (by decide)
    have F4_termCount : Fld Z h4 b4 "com/example/rorqual/rorqual/index/CollectionStatistics" "termCount" "I" (.int (0 : Int32)) := D4 (Or.inr (hw _ (List.mem_of_getElem? (i := 15) rfl))) (ty := .int) (by decide)
    have F4_tokenCount : Fld Z h4 b4 "com/example/rorqual/rorqual/index/CollectionStatistics" "tokenCount" "J" (.long (0 : Int64)) := D4 (Or.inr (hw _ (List.mem_of_getElem? (i := 17) rfl))) (ty := .long) (by decide)
    show Go p e below _ T4 (mkF m 123 #[.val (.int docs), .val (.int terms), .val (.long tokens), .second, .val (.int mode), .val (.int tc), .val (.int dd), .val (.long tt), .second, .unset, .unset, .unset, .unset, .unset, .unset] [(.ref b4)])
    refine Go.of (fun _ k => XS.dup X4.here hx rfl (hb hby at_123) rfl rfl k) ?_
    show Go p e below _ T4 (mkF m 124 #[.val (.int docs), .val (.int terms), .val (.long tokens), .second, .val (.int mode), .val (.int tc), .val (.int dd), .val (.long tt), .second, .unset, .unset, .unset, .unset, .unset, .unset] [(.ref b4), (.ref b4)])
    refine Go.of (fun _ k => XS.iload X4.here hx rfl (hb hby at_124) rfl k) ?_
    show Go p e below _ T4 (mkF m 126 #[.val (.int docs), .val (.int terms), .val (.long tokens), .second, .val (.int mode), .val (.int tc), .val (.int dd), .val (.long tt), .second, .unset, .unset, .unset, .unset, .unset, .unset] [(.int dd), (.ref b4), (.ref b4)])
    refine Go.of (fun _ k => XS.iload X4.here hx rfl (hb hby at_126) rfl k) ?_
    show Go p e below _ T4 (mkF m 128 #[.val (.int docs), .val (.int terms), .val (.long tokens), .second, .val (.int mode), .val (.int tc), .val (.int dd), .val (.long tt), .second, .unset, .unset, .unset, .unset, .unset, .unset] [(.int tc), (.int dd), (.ref b4), (.ref b4)])
    refine Go.of (fun _ k => XS.lload X4.here hx rfl (hb hby at_128) rfl k) ?_
    show Go p e below _ T4 (mkF m 130 #[.val (.int docs), .val (.int terms), .val (.long tokens), .second, .val (.int mode), .val (.int tc), .val (.int dd), .val (.long tt), .second, .unset, .unset, .unset, .unset, .unset, .unset] [(.long tt), (.int tc), (.int dd), (.ref b4), (.ref b4)])
    refine Go.callI (W := 1) (y := (⟨"com/example/rorqual/rorqual/index/CollectionStatistics", "<init>", "(IIJ)V"⟩ : MethodName)) (a := b4) (argsL := [(.int dd), (.int tc), (.long tt)]) (rest := [(.ref b4)]) X4 hx hZ rfl hown (hw _ (List.mem_of_getElem? (i := 6) rfl)) (hw _ (List.mem_of_getElem? (i := 7) rfl)) (hw _ (List.mem_of_getElem? (i := 5) rfl)) (hw _ (List.mem_of_getElem? (i := 8) rfl)) (by decide) (own_rmI l Z a0 hw b4 dd tc tt h0.size h4 sz4 ge_b4 (own_nn hq1) (own_nn htc) (own_cmpL_nn hq2) A4 F4_documentCount F4_termCount F4_tokenCount) e4 (by rw [hml]; rfl) (lenOf own_dsc0 rfl) (hb hby at_130) rfl (Nat.le_of_eq rfl) (by decide) (by decide) (by decide) (by decide) fun _ T5 L5 X5 q5 => ?_
    obtain ⟨rfl, N5q, K5, A5, FD5, FT5⟩ := q5
    have N5 := Fr.app (Fr.nil _) N5q
    have sz5 : h0.size ≤ T5.heap.size := Nat.le_trans sz4 K5.1
    show Go p e below _ T5 (mkF m 133 #[.val (.int docs), .val (.int terms), .val (.long tokens), .second, .val (.int mode), .val (.int tc), .val (.int dd), .val (.long tt), .second, .unset, .unset, .unset, .unset, .unset, .unset] [(.ref b4)])
    refine Go.callVP (W := 0) (y := (⟨"com/example/rorqual/rorqual/index/CollectionStatistics", "averageDocumentLength", "()D"⟩ : MethodName)) (z := (⟨"com/example/rorqual/rorqual/index/CollectionStatistics", "averageDocumentLength", "()D"⟩ : MethodName)) (a := b4) (argsL := []) (rest := []) (r := some (.double (own_avg dd tt))) X5 hx hZ hown (hw _ (List.mem_of_getElem? (i := 18) rfl)) (hw _ (List.mem_of_getElem? (i := 19) rfl)) (notFace_of_selects (args := #[]) (mvT hZ (hw _ (List.mem_of_getElem? (i := 21) rfl)))) (hw _ (List.mem_of_getElem? (i := 21) rfl)) (hw _ (List.mem_of_getElem? (i := 20) rfl)) (hw _ (List.mem_of_getElem? (i := 5) rfl)) (hw _ (List.mem_of_getElem? (i := 22) rfl)) (by decide) (own_rmA l Z a0 hw b4 dd tt T5.heap FD5 FT5) rfl A5 (by rw [hml]; rfl) (lenOf own_dsc1 rfl) (hb hby at_133) rfl (Nat.le_of_eq rfl) (by decide) (by decide) (by decide) (by decide) fun T6 X6 e6 => ?_
    show Go p e below _ T6 (mkF m 136 #[.val (.int docs), .val (.int terms), .val (.long tokens), .second, .val (.int mode), .val (.int tc), .val (.int dd), .val (.long tt), .second, .unset, .unset, .unset, .unset, .unset, .unset] [(.double (own_avg dd tt))])
    refine Go.of (fun _ k => XS.dstore X6.here hx rfl (hb hby at_136) rfl (l' := #[.val (.int docs), .val (.int terms), .val (.long tokens), .second, .val (.int mode), .val (.int tc), .val (.int dd), .val (.long tt), .second, .val (.double (own_avg dd tt)), .second, .unset, .unset, .unset, .unset]) rfl k) ?_
    show Go p e below _ T6 (mkF m 138 #[.val (.int docs), .val (.int terms), .val (.long tokens), .second, .val (.int mode), .val (.int tc), .val (.int dd), .val (.long tt), .second, .val (.double (own_avg dd tt)), .second, .unset, .unset, .unset, .unset] [])
    refine Go.of (fun _ k => XS.iload X6.here hx rfl (hb hby at_138) rfl k) ?_
    show Go p e below _ T6 (mkF m 140 #[.val (.int docs), .val (.int terms), .val (.long tokens), .second, .val (.int mode), .val (.int tc), .val (.int dd), .val (.long tt), .second, .val (.double (own_avg dd tt)), .second, .unset, .unset, .unset, .unset] [(.int dd)])
    by_cases hc140 : dd = (0 : Int32)
    ·
      refine Go.of (fun _ k => XS.ifNo X6.here hx rfl (hb hby at_140) rfl ((if0 _ _).trans (teq hc140).2) k) ?_
      show Go p e below _ T6 (mkF m 143 #[.val (.int docs), .val (.int terms), .val (.long tokens), .second, .val (.int mode), .val (.int tc), .val (.int dd), .val (.long tt), .second, .val (.double (own_avg dd tt)), .second, .unset, .unset, .unset, .unset] [])
      refine Go.of (fun _ k => XS.dload X6.here hx rfl (hb hby at_143) rfl k) ?_
      show Go p e below _ T6 (mkF m 145 #[.val (.int docs), .val (.int terms), .val (.long tokens), .second, .val (.int mode), .val (.int tc), .val (.int dd), .val (.long tt), .second, .val (.double (own_avg dd tt)), .second, .unset, .unset, .unset, .unset] [(.double (own_avg dd tt))])
      refine Go.of (fun _ k => XS.dconst0 X6.here hx rfl (hb hby at_145) (v := 0) (by decide +kernel) k) ?_
      show Go p e below _ T6 (mkF m 146 #[.val (.int docs), .val (.int terms), .val (.long tokens), .second, .val (.int mode), .val (.int tc), .val (.int dd), .val (.long tt), .second, .val (.double (own_avg dd tt)), .second, .unset, .unset, .unset, .unset] [(.double (0 : UInt64)), (.double (own_avg dd tt))])
      refine Go.of (fun _ k => XS.dcmpS X6.here hx rfl (hb hby at_146) rfl rfl k) ?_
      show Go p e below _ T6 (mkF m 147 #[.val (.int docs), .val (.int terms), .val (.long tokens), .second, .val (.int mode), .val (.int tc), .val (.int dd), .val (.long tt), .second, .val (.double (own_avg dd tt)), .second, .unset, .unset, .unset, .unset] [(.int (cmpValue (FP.dcmp (own_avg dd tt) (0 : UInt64)) .l))])
      refine Go.of (fun _ k => XS.ifNo X6.here hx rfl (hb hby at_147) rfl ((if0 _ _).trans (teq (by rw [own_avg, if_pos hc140]; exact own_zero _ : (cmpValue (FP.dcmp (own_avg dd tt) (0 : UInt64)) .l) = (0 : Int32))).2) k) ?_
      show Go p e below _ T6 (mkF m 150 #[.val (.int docs), .val (.int terms), .val (.long tokens), .second, .val (.int mode), .val (.int tc), .val (.int dd), .val (.long tt), .second, .val (.double (own_avg dd tt)), .second, .unset, .unset, .unset, .unset] [])
      refine Go.of (fun _ k => XS.iconst X6.here hx rfl (hb hby at_150) k) ?_
      show Go p e below _ T6 (mkF m 151 #[.val (.int docs), .val (.int terms), .val (.long tokens), .second, .val (.int mode), .val (.int tc), .val (.int dd), .val (.long tt), .second, .val (.double (own_avg dd tt)), .second, .unset, .unset, .unset, .unset] [(.int (1 : Int32))])
      refine Go.of (fun _ k => XS.goto X6.here hx rfl (pc0 := 151) (pc' := 155) rfl (hb hby at_151) (by decide) (by decide) k) ?_
      show Go p e below _ T6 (mkF m 155 #[.val (.int docs), .val (.int terms), .val (.long tokens), .second, .val (.int mode), .val (.int tc), .val (.int dd), .val (.long tt), .second, .val (.double (own_avg dd tt)), .second, .unset, .unset, .unset, .unset] [(.int (1 : Int32))])
      exact Go.retN X6 hx hlk (t := .boolean) hret (by simp) (hb hby at_155) (by decide) (by decide) ⟨rfl, N5⟩
    ·
      refine Go.of (fun _ k => XS.ifYes X6.here hx rfl (pc0 := 140) (pc' := 156) rfl (hb hby at_140) rfl ((if0 _ _).trans (feq hc140).2) (by decide) (by decide) k) ?_
      show Go p e below _ T6 (mkF m 156 #[.val (.int docs), .val (.int terms), .val (.long tokens), .second, .val (.int mode), .val (.int tc), .val (.int dd), .val (.long tt), .second, .val (.double (own_avg dd tt)), .second, .unset, .unset, .unset, .unset] [])
      refine Go.of (fun _ k => XS.dconst0 X6.here hx rfl (hb hby at_156) (v := 0) (by decide +kernel) k) ?_
      show Go p e below _ T6 (mkF m 157 #[.val (.int docs), .val (.int terms), .val (.long tokens), .second, .val (.int mode), .val (.int tc), .val (.int dd), .val (.long tt), .second, .val (.double (own_avg dd tt)), .second, .unset, .unset, .unset, .unset] [(.double (0 : UInt64))])
      refine Go.of (fun _ k => XS.dload X6.here hx rfl (hb hby at_157) rfl k) ?_
      show Go p e below _ T6 (mkF m 159 #[.val (.int docs), .val (.int terms), .val (.long tokens), .second, .val (.int mode), .val (.int tc), .val (.int dd), .val (.long tt), .second, .val (.double (own_avg dd tt)), .second, .unset, .unset, .unset, .unset] [(.double (own_avg dd tt)), (.double (0 : UInt64))])
      refine Go.of (fun _ k => XS.dcmpS X6.here hx rfl (hb hby at_159) rfl rfl k) ?_
      show Go p e below _ T6 (mkF m 160 #[.val (.int docs), .val (.int terms), .val (.long tokens), .second, .val (.int mode), .val (.int tc), .val (.int dd), .val (.long tt), .second, .val (.double (own_avg dd tt)), .second, .unset, .unset, .unset, .unset] [(.int (cmpValue (FP.dcmp (0 : UInt64) (own_avg dd tt)) .g))])
      refine Go.of (fun _ k => XS.ifNo X6.here hx rfl (hb hby at_160) rfl ((if0 _ _).trans (flt ((own_odd hq1 hq2 hc140).1 : ¬ (0 : Int32) < (cmpValue (FP.dcmp (0 : UInt64) (own_avg dd tt)) .g))).2.2.1) k) ?_
      show Go p e below _ T6 (mkF m 163 #[.val (.int docs), .val (.int terms), .val (.long tokens), .second, .val (.int mode), .val (.int tc), .val (.int dd), .val (.long tt), .second, .val (.double (own_avg dd tt)), .second, .unset, .unset, .unset, .unset] [])
      refine Go.of (fun _ k => XS.dload X6.here hx rfl (hb hby at_163) rfl k) ?_
      show Go p e below _ T6 (mkF m 165 #[.val (.int docs), .val (.int terms), .val (.long tokens), .second, .val (.int mode), .val (.int tc), .val (.int dd), .val (.long tt), .second, .val (.double (own_avg dd tt)), .second, .unset, .unset, .unset, .unset] [(.double (own_avg dd tt))])
      refine Go.of (fun _ k => XS.lload X6.here hx rfl (hb hby at_165) rfl k) ?_
      show Go p e below _ T6 (mkF m 167 #[.val (.int docs), .val (.int terms), .val (.long tokens), .second, .val (.int mode), .val (.int tc), .val (.int dd), .val (.long tt), .second, .val (.double (own_avg dd tt)), .second, .unset, .unset, .unset, .unset] [(.long tt), (.double (own_avg dd tt))])
      refine Go.of (fun _ k => XS.l2dS X6.here hx rfl (hb hby at_167) rfl rfl k) ?_
      show Go p e below _ T6 (mkF m 168 #[.val (.int docs), .val (.int terms), .val (.long tokens), .second, .val (.int mode), .val (.int tc), .val (.int dd), .val (.long tt), .second, .val (.double (own_avg dd tt)), .second, .unset, .unset, .unset, .unset] [(.double (FP.l2d tt)), (.double (own_avg dd tt))])
      refine Go.of (fun _ k => XS.dcmpS X6.here hx rfl (hb hby at_168) rfl rfl k) ?_
      show Go p e below _ T6 (mkF m 169 #[.val (.int docs), .val (.int terms), .val (.long tokens), .second, .val (.int mode), .val (.int tc), .val (.int dd), .val (.long tt), .second, .val (.double (own_avg dd tt)), .second, .unset, .unset, .unset, .unset] [(.int (cmpValue (FP.dcmp (own_avg dd tt) (FP.l2d tt)) .g))])
      refine Go.of (fun _ k => XS.ifYes X6.here hx rfl (pc0 := 169) (pc' := 174) rfl (hb hby at_169) rfl ((if0 _ _).trans (flt ((own_odd hq1 hq2 hc140).2 : ¬ (0 : Int32) < (cmpValue (FP.dcmp (own_avg dd tt) (FP.l2d tt)) .g))).2.2.2) (by decide) (by decide) k) ?_
      show Go p e below _ T6 (mkF m 174 #[.val (.int docs), .val (.int terms), .val (.long tokens), .second, .val (.int mode), .val (.int tc), .val (.int dd), .val (.long tt), .second, .val (.double (own_avg dd tt)), .second, .unset, .unset, .unset, .unset] [])
      refine Go.of (fun _ k => XS.iload X6.here hx rfl (hb hby at_174) rfl k) ?_
      show Go p e below _ T6 (mkF m 176 #[.val (.int docs), .val (.int terms), .val (.long tokens), .second, .val (.int mode), .val (.int tc), .val (.int dd), .val (.long tt), .second, .val (.double (own_avg dd tt)), .second, .unset, .unset, .unset, .unset] [(.int dd)])
      refine Go.of (fun _ k => XS.iconst X6.here hx rfl (hb hby at_176) k) ?_
      show Go p e below _ T6 (mkF m 177 #[.val (.int docs), .val (.int terms), .val (.long tokens), .second, .val (.int mode), .val (.int tc), .val (.int dd), .val (.long tt), .second, .val (.double (own_avg dd tt)), .second, .unset, .unset, .unset, .unset] [(.int (1 : Int32)), (.int dd)])
      by_cases hc177 : dd = (1 : Int32)
      ·
        refine Go.of (fun _ k => XS.icmpNo X6.here hx rfl (hb hby at_177) rfl (teq hc177).2 k) ?_
        show Go p e below _ T6 (mkF m 180 #[.val (.int docs), .val (.int terms), .val (.long tokens), .second, .val (.int mode), .val (.int tc), .val (.int dd), .val (.long tt), .second, .val (.double (own_avg dd tt)), .second, .unset, .unset, .unset, .unset] [])
        refine Go.of (fun _ k => XS.dload X6.here hx rfl (hb hby at_180) rfl k) ?_
        show Go p e below _ T6 (mkF m 182 #[.val (.int docs), .val (.int terms), .val (.long tokens), .second, .val (.int mode), .val (.int tc), .val (.int dd), .val (.long tt), .second, .val (.double (own_avg dd tt)), .second, .unset, .unset, .unset, .unset] [(.double (own_avg dd tt))])
        refine Go.of (fun _ k => XS.lload X6.here hx rfl (hb hby at_182) rfl k) ?_
        show Go p e below _ T6 (mkF m 184 #[.val (.int docs), .val (.int terms), .val (.long tokens), .second, .val (.int mode), .val (.int tc), .val (.int dd), .val (.long tt), .second, .val (.double (own_avg dd tt)), .second, .unset, .unset, .unset, .unset] [(.long tt), (.double (own_avg dd tt))])
        refine Go.of (fun _ k => XS.l2dS X6.here hx rfl (hb hby at_184) rfl rfl k) ?_
        show Go p e below _ T6 (mkF m 185 #[.val (.int docs), .val (.int terms), .val (.long tokens), .second, .val (.int mode), .val (.int tc), .val (.int dd), .val (.long tt), .second, .val (.double (own_avg dd tt)), .second, .unset, .unset, .unset, .unset] [(.double (FP.l2d tt)), (.double (own_avg dd tt))])
        refine Go.of (fun _ k => XS.dcmpS X6.here hx rfl (hb hby at_185) rfl rfl k) ?_
        show Go p e below _ T6 (mkF m 186 #[.val (.int docs), .val (.int terms), .val (.long tokens), .second, .val (.int mode), .val (.int tc), .val (.int dd), .val (.long tt), .second, .val (.double (own_avg dd tt)), .second, .unset, .unset, .unset, .unset] [(.int (cmpValue (FP.dcmp (own_avg dd tt) (FP.l2d tt)) .l))])
        refine Go.of (fun _ k => XS.ifNo X6.here hx rfl (hb hby at_186) rfl ((if0 _ _).trans (teq (by rw [hc177]; exact own_one _ : (cmpValue (FP.dcmp (own_avg dd tt) (FP.l2d tt)) .l) = (0 : Int32))).2) k) ?_
        show Go p e below _ T6 (mkF m 189 #[.val (.int docs), .val (.int terms), .val (.long tokens), .second, .val (.int mode), .val (.int tc), .val (.int dd), .val (.long tt), .second, .val (.double (own_avg dd tt)), .second, .unset, .unset, .unset, .unset] [])
        refine Go.of (fun _ k => XS.iconst X6.here hx rfl (hb hby at_189) k) ?_
        show Go p e below _ T6 (mkF m 190 #[.val (.int docs), .val (.int terms), .val (.long tokens), .second, .val (.int mode), .val (.int tc), .val (.int dd), .val (.long tt), .second, .val (.double (own_avg dd tt)), .second, .unset, .unset, .unset, .unset] [(.int (1 : Int32))])
        refine Go.of (fun _ k => XS.goto X6.here hx rfl (pc0 := 190) (pc' := 194) rfl (hb hby at_190) (by decide) (by decide) k) ?_
        show Go p e below _ T6 (mkF m 194 #[.val (.int docs), .val (.int terms), .val (.long tokens), .second, .val (.int mode), .val (.int tc), .val (.int dd), .val (.long tt), .second, .val (.double (own_avg dd tt)), .second, .unset, .unset, .unset, .unset] [(.int (1 : Int32))])
        exact Go.retN X6 hx hlk (t := .boolean) hret (by simp) (hb hby at_194) (by decide) (by decide) ⟨rfl, N5⟩
      ·
        refine Go.of (fun _ k => XS.icmpYes X6.here hx rfl (pc0 := 177) (pc' := 195) rfl (hb hby at_177) rfl (feq hc177).2 (by decide) (by decide) k) ?_
        show Go p e below _ T6 (mkF m 195 #[.val (.int docs), .val (.int terms), .val (.long tokens), .second, .val (.int mode), .val (.int tc), .val (.int dd), .val (.long tt), .second, .val (.double (own_avg dd tt)), .second, .unset, .unset, .unset, .unset] [])
        refine Go.of (fun _ k => XS.iconst X6.here hx rfl (hb hby at_195) k) ?_
        show Go p e below _ T6 (mkF m 196 #[.val (.int docs), .val (.int terms), .val (.long tokens), .second, .val (.int mode), .val (.int tc), .val (.int dd), .val (.long tt), .second, .val (.double (own_avg dd tt)), .second, .unset, .unset, .unset, .unset] [(.int (1 : Int32))])
        exact Go.retN X6 hx hlk (t := .boolean) hret (by simp) (hb hby at_196) (by decide) (by decide) ⟨rfl, N5⟩
set_option maxRecDepth 65536 in
set_option maxHeartbeats 40000000 in
theorem comes_1 {Post : Tables → Env → Array Value → State → Outcome → State → Prop} (hpost : ∀ tb e args s v u, (limb_1_1.after args s (.returned v) u = true ∧ limb_1_2.after args s (.returned v) u = true ∧ True) → FrameEnd s (.returned v) u (Jvm.fieldLocs frame_1_writes args s ++ Jvm.arrayLocs frame_1_arrays args s ++ Jvm.staticLocs frame_1_statics s) 16 128 → Post tb e args s (.returned v) u) :
    ArmFor flags0 classFile x code maxLocals ret World_1 tables_1 room_1 Calls_1 rest_1 Pre_1 Post := by
  intro l hfl _ _ p e ha hc hk s m args below hf hA hF happ hP
  obtain ⟨hcalls, hrest, hpre⟩ := hP
  obtain ⟨-, -, -, hnamed, -, -, -, hat⟩ := (Spec.applies_iff hf).mp happ
  obtain ⟨hg, hn⟩ := and_e (Cond.before_iff.mp (show (Jvm.Cond.and given_1 narrow_1).before args s = true from hpre))
  obtain ⟨g0, gg0⟩ := and_e hg
  obtain ⟨ga0, gg1⟩ := and_e gg0
  obtain ⟨ga1, gg2⟩ := and_e gg1
  obtain ⟨ga2, gg3⟩ := and_e gg2
  have ga3 := gg3
  obtain ⟨w0, w1, w2, w3, rfl⟩ : ∃ w0 w1 w2 w3 : Value, args = #[w0, w1, w2, w3] := by
    have hs : args.size = 4 := by simpa [Cond.value, given_1] using g0
    obtain ⟨L⟩ := args
    match L, hs with
    | [w0, w1, w2, w3], _ => exact ⟨w0, w1, w2, w3, rfl⟩
  have hw := fun d (hd : d ∈ tables_1) => atoms_spec (ws := Jvm.Cond.code x code maxLocals ret :: tables_1) hat d (List.mem_cons_of_mem _ hd)
  have hfit : Fit s := fun {y c} hc i hi => by
    obtain ⟨ha, rfl⟩ := Array.getElem?_eq_some_iff.mp hc
    have q := List.all_eq_true.mp ((Array.all_eq_true_iff_forall_mem.mp hF) _ (Array.getElem_mem ha)) i (List.mem_range.mpr hi)
    simpa [Array.getElem?_eq_getElem hi] using q
  obtain ⟨i0, ei0⟩ := is_v ga0
  obtain rfl : w0 = (.int i0) := Option.some.inj ei0
  obtain ⟨i1, ei1⟩ := is_v ga1
  obtain rfl : w1 = (.int i1) := Option.some.inj ei1
  obtain ⟨i2, ei2⟩ := isL_v ga2
  obtain rfl : w2 = (.long i2) := Option.some.inj ei2
  obtain ⟨i3, ei3⟩ := is_v ga3
  obtain rfl : w3 = (.int i3) := Option.some.inj ei3
  obtain ⟨n, o, h1, h2, h3, _, L, rfl, ⟨rfl, N⟩, hq⟩ := rm0 l s _ hw tables_1 i0 i1 i2 i3 s.heap p e ha hc hk s m _ below hf ((Spec.applies_iff_loose hf).mp happ).1 ⟨rfl, State.Warmed39.refl s, rfl⟩ trivial
  refine ⟨n, _, h1, h2, h3, hpost _ _ _ _ _ _ ⟨Cond.after_iff.mpr rfl, Cond.after_iff.mpr (eq_i res_at (Term.int_eval (1)) rfl), trivial⟩ ⟨hq.1, hq.2.1, (hq.2.2.sift fun y hy => Or.inr (N y hy)).mono (by decide) (by decide)⟩⟩
theorem main_1_1 : Claimed_1_1 := comes_1 fun _ _ _ _ _ _ h hF => ⟨h.1, hF⟩
theorem main_1_2 : Claimed_1_2 := comes_1 fun _ _ _ _ _ _ h hF => ⟨h.2.1, hF⟩
end Jvm.Pilot.@@N@@
namespace Jvm.Pilot.@@N@@
open Jvm Jvm.ClassFile Sem Op Lib Jvm.Free Jvm.Stand Jvm.Pilot.@@N@@.Jvm.D
/-! MADE BY PROGRAM (witnessworld.py) out of the Statement's table words and the real class files: 9 classes; the members and pool entries that the words name. The judged class is class 1, her method 1. -/
namespace start1
open Jvm.ClassFile
def u (s : String) : CpInfo := .utf8 (stringToUtf16 s)
/-- a pool by its gaps: so many unusable entries, then the entry; so many at the end -/
def gap : Nat → List CpInfo → List CpInfo
  | 0, r => r
  | n + 1, r => .unusable :: gap n r
def poolList (es : List (Nat × CpInfo)) (last : Nat) : List CpInfo := es.foldr (fun e r => gap e.1 (e.2 :: r)) (gap last [])
def pool (es : List (Nat × CpInfo)) (last : Nat) : Array CpInfo := ⟨poolList es last⟩
def fileOf (pool : Array CpInfo) (this : Nat) (attrs : Array Attribute := #[]) (ms : Array MethodInfo := #[]) (fl : Nat := 33) (sup : Nat := 0) (ifs : Array Nat := #[]) (fds : Array FieldInfo := #[]) : ClassFile where
  minorVersion := 0
  majorVersion := 65
  constantPool := pool
  accessFlags := fl
  thisClass := this
  superClass := sup
  interfaces := ifs
  fields := fds
  methods := ms
  attributes := attrs
def plain (name : String) (sup : Option ClassId) : Class where
  name := name
  kind := .ordinary
  loader := none
  accessFlags := 33
  super := sup
  interfaces := #[]
  cf := none
  fields := #[]
  methods := #[]
  instanceTypes := #[]
  staticTypes := #[]
  resolved := #[]
  callSites := []
  init := .initialized
  statics := none
  mirror := none

def pool0 : Array CpInfo := pool [(5, u "<init>"), (0, u "()V"), (1, .class_ 10), (1, u "java/lang/Object")] 113

def k0c0 : Code := { maxStack := 0, maxLocals := 1, code := object_method_1_code, exceptionTable := #[], attributes := #[] }
def k0m0 : Method := { name := "<init>", desc := "()V", sig := { parameters := [], returnType := none }, accessFlags := 1, code := some k0c0 }
/-- java/lang/Object -/
def k0 : Class := { plain "java/lang/Object" none with
  accessFlags := 33
  interfaces := #[]
  cf := some (fileOf pool0 8 #[] #[{ accessFlags := 1, nameIndex := 5, descriptorIndex := 6, attributes := #[] }] 33 0 #[] #[])
  fields := #[]
  methods := #[k0m0]
  instanceTypes := #[]
  staticTypes := #[]
  resolved := Array.replicate 124 none
  statics := none }

def pool1 : Array CpInfo := pool [(2, .class_ 4), (1, u "java/lang/Object"), (0, u "<init>"), (0, u "()V"), (0, .integer 2147483647), (0, .integer 16777215), (0, .long 4194303), (1, .class_ 12), (0, u "com/example/rorqual/rorqual/index/CollectionStatistics"), (0, .methodref 11 14), (0, .nameAndType 5 15), (0, u "(IIJ)V"), (0, .methodref 11 17), (0, .nameAndType 18 19), (0, u "averageDocumentLength"), (0, u "()D"), (2, .long 9223372036854775807), (1, .class_ 25), (0, u "com/example/rorqual/rorqual/index/CollectionStatisticsAverageDocumentLengthPinLaw"), (2, u "law"), (0, u "(IIJI)Z")] 3

def k1m0 : Method := { name := "<init>", desc := "()V", sig := { parameters := [], returnType := none }, accessFlags := 1, code := none }
def k1c1 : Code := { maxStack := 6, maxLocals := 15, code := code, exceptionTable := #[], attributes := #[] }
def k1m1 : Method := { name := "law", desc := "(IIJI)Z", sig := { parameters := [.int, .int, .long, .int], returnType := some .boolean }, accessFlags := 9, code := some k1c1 }
/-- com/example/rorqual/rorqual/index/CollectionStatisticsAverageDocumentLengthPinLaw -/
def k1 : Class := { plain "com/example/rorqual/rorqual/index/CollectionStatisticsAverageDocumentLengthPinLaw" (some 0) with
  accessFlags := 49
  interfaces := #[]
  cf := some (fileOf pool1 24 #[] #[{ accessFlags := 1, nameIndex := 5, descriptorIndex := 6, attributes := #[] }, { accessFlags := 9, nameIndex := 28, descriptorIndex := 29, attributes := #[] }] 49 2 #[] #[])
  fields := #[]
  methods := #[k1m0, k1m1]
  instanceTypes := #[]
  staticTypes := #[]
  resolved := Array.replicate 33 none
  statics := none }

def pool2 : Array CpInfo := pool [(1, .methodref 2 3), (0, .class_ 4), (0, .nameAndType 5 6), (0, u "java/lang/Object"), (0, u "<init>"), (0, u "()V"), (24, .fieldref 32 33), (0, .class_ 34), (0, .nameAndType 35 36), (0, u "com/example/rorqual/rorqual/index/CollectionStatistics"), (0, u "documentCount"), (0, u "I"), (0, .fieldref 32 38), (0, .nameAndType 39 36), (0, u "termCount"), (0, .fieldref 32 41), (0, .nameAndType 42 43), (0, u "tokenCount"), (0, u "J"), (12, u "(IIJ)V"), (5, u "averageDocumentLength"), (0, u "()D")] 2

def k2c0 : Code := { maxStack := 8, maxLocals := 5, code := prog_37_method_1_code, exceptionTable := #[], attributes := #[] }
def k2m0 : Method := { name := "<init>", desc := "(IIJ)V", sig := { parameters := [.int, .int, .long], returnType := none }, accessFlags := 1, code := some k2c0 }
def k2c1 : Code := { maxStack := 4, maxLocals := 3, code := prog_37_method_6_code, exceptionTable := #[], attributes := #[] }
def k2m1 : Method := { name := "averageDocumentLength", desc := "()D", sig := { parameters := [], returnType := some .double }, accessFlags := 1, code := some k2c1 }
/-- com/example/rorqual/rorqual/index/CollectionStatistics -/
def k2 : Class := { plain "com/example/rorqual/rorqual/index/CollectionStatistics" (some 0) with
  accessFlags := 49
  interfaces := #[]
  cf := some (fileOf pool2 32 #[] #[{ accessFlags := 1, nameIndex := 5, descriptorIndex := 56, attributes := #[] }, { accessFlags := 1, nameIndex := 62, descriptorIndex := 63, attributes := #[] }] 49 2 #[] #[{ accessFlags := 18, nameIndex := 35, descriptorIndex := 36, attributes := #[] }, { accessFlags := 18, nameIndex := 39, descriptorIndex := 36, attributes := #[] }, { accessFlags := 18, nameIndex := 42, descriptorIndex := 43, attributes := #[] }])
  fields := #[{ name := "documentCount", type := .int, accessFlags := 18, slot := 0, constantValue := 0 }, { name := "termCount", type := .int, accessFlags := 18, slot := 1, constantValue := 0 }, { name := "tokenCount", type := .long, accessFlags := 18, slot := 2, constantValue := 0 }]
  methods := #[k2m0, k2m1]
  instanceTypes := #[.int, .int, .long]
  staticTypes := #[]
  resolved := Array.replicate 66 none
  statics := none }

def pool3 : Array CpInfo := pool [(1, u "java/lang/Cloneable"), (0, .class_ 1), (0, u "java/lang/Object"), (0, .class_ 3)] 3

/-- java/lang/Cloneable -/
def k3 : Class := { plain "java/lang/Cloneable" (some 0) with
  accessFlags := 1537
  interfaces := #[]
  cf := some (fileOf pool3 2 #[] #[] 1537 4 #[] #[])
  fields := #[]
  methods := #[]
  instanceTypes := #[]
  staticTypes := #[]
  resolved := Array.replicate 8 none
  statics := none }

def pool4 : Array CpInfo := pool [(1, u "java/io/Serializable"), (0, .class_ 1), (0, u "java/lang/Object"), (0, .class_ 3)] 3

/-- java/io/Serializable -/
def k4 : Class := { plain "java/io/Serializable" (some 0) with
  accessFlags := 1537
  interfaces := #[]
  cf := some (fileOf pool4 2 #[] #[] 1537 4 #[] #[])
  fields := #[]
  methods := #[]
  instanceTypes := #[]
  staticTypes := #[]
  resolved := Array.replicate 8 none
  statics := none }

/-- the primitive byte -/
def k5 : Class := { plain "byte" none with kind := .primitive 'B', accessFlags := 0x411 }
/-- [B -/
def k6 : Class := { plain "[B" (some 0) with kind := .array 5 .byte, interfaces := #[3, 4], accessFlags := 1041 }

/-- the primitive int -/
def k7 : Class := { plain "int" none with kind := .primitive 'I', accessFlags := 0x411 }
/-- [I -/
def k8 : Class := { plain "[I" (some 0) with kind := .array 7 .int, interfaces := #[3, 4], accessFlags := 1041 }

def heap : Heap := #[]
def classes : Array Class := #[k0, k1, k2, k3, k4, k5, k6, k7, k8]
def interned : List (Array UInt16 × Addr) := []
def slotsUsed : Nat := 0
def theMethod : MethodId := ⟨1, 1⟩
def args0 : Array Value := #[.int 5, .int 7, .long 3, .int 2]
def aboutOver (below : List Frame) : State where
  vm := { classes := classes, interned := interned.toArray }
  heap := heap
  slotsUsed := slotsUsed
  threads := #[{ frames := .invoking theMethod args0 :: below }]
def below0 : List Frame := [.native { method := ⟨0, 0⟩, args := #[] }]
def about1 : State := aboutOver below0
def p0 : Program := .bare "" "" ""
def e0 : Env := launch0.env 0 0 0
theorem w_frames : about1.frames = Frame.invoking theMethod args0 :: below0 := rfl
set_option maxRecDepth 65536 in
theorem w_args : argsFit about1.vm theMethod args0 = true := by decide +kernel
set_option maxRecDepth 65536 in
theorem w_heap : heapFits about1 = true := by decide +kernel
set_option maxRecDepth 65536 in
theorem w_runnable : about1.curStatus? = some .runnable := by decide +kernel
set_option maxRecDepth 65536 in
theorem w_alone : about1.alone = true := by decide +kernel
set_option maxRecDepth 65536 in
theorem w_named : about1.methodNamed? x = some theMethod := by decide +kernel
set_option maxRecDepth 65536 in
theorem w_hears : about1.hears theMethod below0 = true := by decide +kernel
set_option maxRecDepth 65536 in
theorem w_ripe : about1.ripe theMethod args0 below0 = true := by decide +kernel
theorem w_running : about1.status = .running := rfl
set_option maxRecDepth 65536 in
theorem w_room : about1.hasRoom e0.platform room_1 = true :=
  launch0.hasRoom_least _ room_1 (by decide +kernel) (by decide +kernel) (by decide +kernel) (by decide +kernel) (by decide +kernel) (by decide +kernel)
theorem allAtoms_all (ts : List Jvm.Cond) (a : Array Jvm.Value) (st : Jvm.State) : (allAtoms ts).before a st = ts.all (fun c => c.before a st) := by
  induction ts with
  | nil => rfl
  | cons c t ih =>
    show (Jvm.Cond.and c (allAtoms t)).before a st = _
    rw [Jvm.Cond.before_and, ih, List.all_cons]
def words1 : List Jvm.Cond := Jvm.Cond.code x code maxLocals ret :: tables_1
/-- a 'code' word, met by the world's own term for the bytes: nothing is compared byte by byte -/
theorem code_word {y : MethodName} {bytes : ByteArray} {mx : Nat} {rt : Option FieldType} {a : Array Value} {s : State} {m : MethodId} {meth : Method} {c : Code} (h1 : s.methodNamed? y = some m) (h2 : s.vm.method? m = some meth) (h3 : meth.code = some c) (h4 : c.code = bytes)
    (h5 : (c.maxLocals == mx && c.exceptionTable.isEmpty && decide (c.maxStack ≤ mostOperands) && decide (meth.sig.returnType = rt) && !meth.locks && decide (parseMethodDescriptor y.desc = some meth.sig)) = true) : (Jvm.Cond.code y bytes mx rt).before a s = true := by
  simp only [Bool.and_eq_true, beq_iff_eq, Bool.not_eq_true', decide_eq_true_eq] at h5
  obtain ⟨⟨⟨⟨⟨g1, g2⟩, g3⟩, g4⟩, g5⟩, g6⟩ := h5
  simp [Cond.before, Cond.holds, Cond.value, h1, h2, h3, h4, g1, g2, g3, g4, g5, g6]
def isCode : Jvm.Cond → Bool
  | .code _ _ _ _ => true
  | _ => false
theorem all_split {L : List Jvm.Cond} {P : Jvm.Cond → Bool} (h1 : L.all (fun c => isCode c || P c) = true) (h2 : ∀ c ∈ L.filter isCode, P c = true) : L.all P = true := by
  refine List.all_eq_true.mpr fun c hc => ?_
  have h := List.all_eq_true.mp h1 c hc
  rcases Bool.eq_false_or_eq_true (isCode c) with hi | hi
  · exact h2 c (List.mem_filter.mpr ⟨hc, hi⟩)
  · simpa [hi] using h
set_option maxRecDepth 65536 in
theorem w_c0 : (Jvm.Cond.code x code maxLocals ret).before args0 about1 = true := code_word (m := ⟨1, 1⟩) (meth := k1m1) (c := k1c1) (by decide +kernel) rfl rfl rfl (by decide +kernel)
set_option maxRecDepth 65536 in
theorem w_c1 : (Jvm.Cond.code ({ cls := "com/example/rorqual/rorqual/index/CollectionStatistics", name := "<init>", desc := "(IIJ)V" } : Jvm.MethodName) prog_37_method_1_code (5 : Nat) (Option.none : Option Jvm.ClassFile.FieldType)).before args0 about1 = true := code_word (m := ⟨2, 0⟩) (meth := k2m0) (c := k2c0) (by decide +kernel) rfl rfl rfl (by decide +kernel)
set_option maxRecDepth 65536 in
theorem w_c2 : (Jvm.Cond.code ({ cls := "java/lang/Object", name := "<init>", desc := "()V" } : Jvm.MethodName) object_method_1_code (1 : Nat) (Option.none : Option Jvm.ClassFile.FieldType)).before args0 about1 = true := code_word (m := ⟨0, 0⟩) (meth := k0m0) (c := k0c0) (by decide +kernel) rfl rfl rfl (by decide +kernel)
set_option maxRecDepth 65536 in
theorem w_c3 : (Jvm.Cond.code ({ cls := "com/example/rorqual/rorqual/index/CollectionStatistics", name := "averageDocumentLength", desc := "()D" } : Jvm.MethodName) prog_37_method_6_code (3 : Nat) (Option.some Jvm.ClassFile.FieldType.double)).before args0 about1 = true := code_word (m := ⟨2, 1⟩) (meth := k2m1) (c := k2c1) (by decide +kernel) rfl rfl rfl (by decide +kernel)
def codes1 : List Jvm.Cond := [Jvm.Cond.code x code maxLocals ret, Jvm.Cond.code ({ cls := "com/example/rorqual/rorqual/index/CollectionStatistics", name := "<init>", desc := "(IIJ)V" } : Jvm.MethodName) prog_37_method_1_code (5 : Nat) (Option.none : Option Jvm.ClassFile.FieldType), Jvm.Cond.code ({ cls := "java/lang/Object", name := "<init>", desc := "()V" } : Jvm.MethodName) object_method_1_code (1 : Nat) (Option.none : Option Jvm.ClassFile.FieldType), Jvm.Cond.code ({ cls := "com/example/rorqual/rorqual/index/CollectionStatistics", name := "averageDocumentLength", desc := "()D" } : Jvm.MethodName) prog_37_method_6_code (3 : Nat) (Option.some Jvm.ClassFile.FieldType.double)]
set_option maxRecDepth 65536 in
theorem codes_eq : words1.filter isCode = codes1 := rfl
theorem w_codes : ∀ c ∈ words1.filter isCode, c.before args0 about1 = true := by
  rw [codes_eq]
  intro c hc
  simp only [codes1, List.mem_cons, List.not_mem_nil, or_false] at hc
  rcases hc with rfl | rfl | rfl | rfl
  · exact w_c0
  · exact w_c1
  · exact w_c2
  · exact w_c3
set_option maxRecDepth 65536 in
theorem w_t1 : (words1.take 24).all (fun c => isCode c || c.before args0 about1) = true := by decide +kernel
set_option maxRecDepth 65536 in
theorem w_t2 : (words1.drop 24).all (fun c => isCode c || c.before args0 about1) = true := by decide +kernel
theorem w_tables : (allAtoms (Jvm.Cond.code x code maxLocals ret :: tables_1)).before args0 about1 = true := by
  rw [allAtoms_all]
  show words1.all (fun c => c.before args0 about1) = true
  refine all_split ?_ w_codes
  rw [← List.take_append_drop 24 words1, List.all_append, w_t1, w_t2]
  rfl
set_option maxRecDepth 65536 in
theorem w_case : (Jvm.Cond.and given_1 narrow_1).before args0 about1 = true := by decide +kernel
theorem w_applies : (headSpec (Jvm.Cond.code x code maxLocals ret :: tables_1) room_1).applies x e0.platform about1 = true :=
  (Spec.applies_iff w_frames).mpr ⟨w_running, w_runnable, w_alone, w_named, w_hears, w_ripe, w_room, w_tables⟩
theorem atStart : AtStart classFile x code maxLocals ret World_1 tables_1 room_1 Calls_1 rest_1 Pre_1 launch0 p0 e0 about1 theMethod args0 below0 :=
  ⟨lists_1, trivial, launch0.admits_env _ _ _, launch0.least_env, fairChoices_fair.cas, fairChoices_fair.clock, w_frames, w_args, w_heap, w_applies, trivial, trivial, w_case⟩
end start1
theorem witness_1 : WitnessClaimed_1 := ⟨start1.p0, start1.e0, start1.about1, start1.theMethod, start1.args0, start1.below0, start1.atStart⟩
end Jvm.Pilot.@@N@@
