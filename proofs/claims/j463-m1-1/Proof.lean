import JvmDerived
import JvmDerived.Pilot.@@N@@Statement
import JvmDerived.Pilot.@@N@@Code
set_option linter.unusedVariables false
set_option linter.unusedSimpArgs false
namespace Jvm.Free.XS
/-- lcmp's int; iushr's int -/
def cmpL (x y : Int64) : Int32 := if x > y then 1 else if x = y then 0 else -1
def ushr (x y : Int32) : Int32 := (x.toUInt32 >>> (y &&& 31).toUInt32).toInt32
end Jvm.Free.XS
namespace Jvm.RoadKit
open Sem ClassFile Op Lib Jvm.Stand Jvm.Free Jvm.LawKit
section Going
variable {p : Program} {l : Launch} {e : Env} {R : Room} {s : State} {m : MethodId} {args : Array Value} {below : List Frame} {meth : Method} {c : Code} {T T' : State} {locs : List Loc} {cells slots : Nat} {K N : Nat} {Q : Option Value → Heap → List Loc → Prop} {F : Option Value → State → Prop} {g g' : JFrame} {Z : State} {a0 : Array Value} {h : Heap}
/-- from this frame the run comes to the method's return, with what F says of the value and the end -/
def Go (p : Program) (e : Env) (below : List Frame) (F : Option Value → State → Prop) (T : State) (g : JFrame) : Prop :=
  ∃ s₂ o, Steps p.tables e below (T.setTop g) s₂ ∧ s₂.status = .running ∧ Ended s₂ below o ∧ ∃ v, o = .returned v ∧ F v s₂
/-- what is said of an end: Q of the value, the heap and the places written; and the frame -/
def GoEnd (s : State) (K N : Nat) (Q : Option Value → Heap → List Loc → Prop) (v : Option Value) (t : State) : Prop := ∃ L, Q v t.heap L ∧ FrameEnd s (.returned v) t L K N
theorem Go.of (q : ∀ t, Steps p.tables e below (T'.setTop g') t → Steps p.tables e below (T.setTop g) t) (k : Go p e below F T' g') : Go p e below F T g := by
  obtain ⟨s₂, o, h1, r⟩ := k; exact ⟨s₂, o, q _ h1, r⟩
theorem Go.via (q : Steps p.tables e below (T.setTop g) (T'.setTop g')) (k : Go p e below F T' g') : Go p e below F T g := Go.of (fun _ r => q.trans r) k
theorem Go.cast (q : g = g') (k : Go p e below F T g') : Go p e below F T g := q ▸ k
/-- a body's contract out of its walk -/
theorem goBody {y : MethodName} {bytes : ByteArray} {maxL : Nat} {ret : Option FieldType} {ws : List Cond} {rm : Room} {as' : Array Value} (hp : plainFor y = true)
    (body : ∀ p e s m below meth c s₁, p.tables.exec = Jvm.exec → Z.Warmed39 s.vm → c.code = bytes → c.maxLocals = maxL → s.vm.findClass y.cls = some m.cls → meth.name = y.name → meth.sig.returnType = ret → meth.locks = false →
      Stand p l e rm s m as' below meth c s₁ [] 0 0 → s₁.heap = h → Go p e below (GoEnd s rm.cells rm.slots Q) s₁ (entryFrame m as' maxL)) :
    MetFree l y (head1 (Cond.code y bytes maxL ret :: ws) rm) (fun a U => a = as' ∧ Z.Warmed39 U.vm ∧ U.heap = h) (fun _ _ _ _ _ => True) (fun _ U o U' => ∃ v L, o = .returned v ∧ Q v U'.heap L ∧ FrameEnd U o U' L rm.cells rm.slots) := by
  refine MetFree.of_bodySF hp hisR ?_
  intro p e s m args below meth c s₁ Bd hml hP hK
  obtain ⟨rfl, hZ, hh⟩ := hP
  obtain ⟨s₂, o, h1, h2, h3, v, rfl, L, h4, h5⟩ := body p e s m below meth c s₁ Bd.exec hZ Bd.bytes hml (findClass_of_methodNamed Bd.named) (name_of_methodNamed Bd.named Bd.method).1 Bd.returns Bd.notSynchronized (Stand.of_body Bd) (by rw [← hh, Bd.state]; rfl)
  exact ⟨s₂, _, h1, h2, h3, v, L, rfl, h4, h5⟩
theorem Go.retI (X : Stand p l e R s m args below meth c T locs cells slots) (hx : p.tables.exec = Jvm.exec) (hlk : meth.locks = false) {pc : Nat} {Ls : Array Slot} {z : Int32} {rest : List Value} (hret : meth.sig.returnType = some .int) (hd : decode c.code pc = .ok (.ireturn, 1)) (hK : cells ≤ K) (hN : slots ≤ N) (hq : Q (some (.int z)) T.heap locs) : Go p e below (GoEnd s K N Q) T (mkF m pc Ls (.int z :: rest)) := by
  obtain ⟨fs, hr, hrun, hended, hW, hsame⟩ := X.leave (v := some (.int z)) (fun h => by rw [hret] at h; cases h) hlk
  exact ⟨_, _, retOut X hx (t := .int) (i := .ireturn) hret rfl (Or.inl ⟨rfl, Or.inl rfl, z, rfl⟩) hd hr, hrun, hended, _, rfl, _, hq, ⟨_, rfl⟩, hW, hsame.mono hK hN⟩
theorem Go.retN (X : Stand p l e R s m args below meth c T locs cells slots) (hx : p.tables.exec = Jvm.exec) (hlk : meth.locks = false) {pc : Nat} {Ls : Array Slot} {z : Int32} {t : FieldType} {rest : List Value} (hret : meth.sig.returnType = some t) (ht : t = .boolean ∨ t = .byte ∨ t = .char ∨ t = .short) (hd : decode c.code pc = .ok (.ireturn, 1)) (hK : cells ≤ K) (hN : slots ≤ N) (hq : Q (some (.int (nar t z))) T.heap locs) : Go p e below (GoEnd s K N Q) T (mkF m pc Ls (.int z :: rest)) := by
  obtain ⟨fs, hr, hrun, hended, hW, hsame⟩ := X.leave (v := some (.int (nar t z))) (fun h => by rw [hret] at h; cases h) hlk
  exact ⟨_, _, Jvm.RoadKit.retN X hx (t := t) hret ht hd hr, hrun, hended, _, rfl, _, hq, ⟨_, rfl⟩, hW, hsame.mono hK hN⟩
theorem Go.retJ (X : Stand p l e R s m args below meth c T locs cells slots) (hx : p.tables.exec = Jvm.exec) (hlk : meth.locks = false) {pc : Nat} {Ls : Array Slot} {z : Int64} {rest : List Value} (hret : meth.sig.returnType = some .long) (hd : decode c.code pc = .ok (.lreturn, 1)) (hK : cells ≤ K) (hN : slots ≤ N) (hq : Q (some (.long z)) T.heap locs) : Go p e below (GoEnd s K N Q) T (mkF m pc Ls (.long z :: rest)) := by
  obtain ⟨fs, hr, hrun, hended, hW, hsame⟩ := X.leave (v := some (.long z)) (fun h => by rw [hret] at h; cases h) hlk
  exact ⟨_, _, retOut X hx (t := .long) (i := .lreturn) hret rfl (Or.inr (Or.inl ⟨rfl, rfl, z, rfl⟩)) hd hr, hrun, hended, _, rfl, _, hq, ⟨_, rfl⟩, hW, hsame.mono hK hN⟩
theorem Go.retD (X : Stand p l e R s m args below meth c T locs cells slots) (hx : p.tables.exec = Jvm.exec) (hlk : meth.locks = false) {pc : Nat} {Ls : Array Slot} {z : UInt64} {rest : List Value} (hret : meth.sig.returnType = some .double) (hd : decode c.code pc = .ok (.dreturn, 1)) (hK : cells ≤ K) (hN : slots ≤ N) (hq : Q (some (.double z)) T.heap locs) : Go p e below (GoEnd s K N Q) T (mkF m pc Ls (.double z :: rest)) := by
  obtain ⟨fs, hr, hrun, hended, hW, hsame⟩ := X.leave (v := some (.double z)) (fun h => by rw [hret] at h; cases h) hlk
  exact ⟨_, _, retOut X hx (t := .double) (i := .dreturn) hret rfl (Or.inr (Or.inr (Or.inl ⟨rfl, rfl, z, rfl⟩))) hd hr, hrun, hended, _, rfl, _, hq, ⟨_, rfl⟩, hW, hsame.mono hK hN⟩
theorem Go.retA (X : Stand p l e R s m args below meth c T locs cells slots) (hx : p.tables.exec = Jvm.exec) (hlk : meth.locks = false) {pc : Nat} {Ls : Array Slot} {v : Value} {t : FieldType} {rest : List Value} (hret : meth.sig.returnType = some t) (ht : t.isReference = true) (hv : v.isRef = true) (hn : narrow t v = v) (hd : decode c.code pc = .ok (.areturn, 1)) (hK : cells ≤ K) (hN : slots ≤ N) (hq : Q (some v) T.heap locs) : Go p e below (GoEnd s K N Q) T (mkF m pc Ls (v :: rest)) := by
  obtain ⟨fs, hr, hrun, hended, hW, hsame⟩ := X.leave (v := some v) (fun h => by rw [hret] at h; cases h) hlk
  exact ⟨_, _, retOut X hx (t := t) (i := .areturn) hret hn (Or.inr (Or.inr (Or.inr (Or.inr ⟨rfl, ht, hv⟩)))) hd hr, hrun, hended, _, rfl, _, hq, ⟨_, rfl⟩, hW, hsame.mono hK hN⟩
theorem Go.retV (X : Stand p l e R s m args below meth c T locs cells slots) (hx : p.tables.exec = Jvm.exec) (hlk : meth.locks = false) {pc : Nat} {Ls : Array Slot} (hret : meth.sig.returnType = none) (hd : decode c.code pc = .ok (.return_, 1)) (hK : cells ≤ K) (hN : slots ≤ N) (hq : Q none T.heap locs) : Go p e below (GoEnd s K N Q) T (mkF m pc Ls []) := by
  obtain ⟨fs, hr, hrun, hended, hW, hsame⟩ := X.leave (v := none) (fun _ => rfl) hlk
  exact ⟨_, _, X.returnOut hx hret hd hr, hrun, hended, _, rfl, _, hq, ⟨_, rfl⟩, hW, hsame.mono hK hN⟩
/-- what a callee that writes and makes nothing leaves -/
def PQ (h : Heap) (r : Option Value) (v : Option Value) (h' : Heap) (L : List Loc) : Prop := v = r ∧ L = [] ∧ h' = h
/-- a contract in the form in which a call takes it -/
abbrev MetAt (l : Launch) (Z : State) (y : MethodName) (bytes : ByteArray) (maxL : Nat) (ret : Option FieldType) (rm : Room) (as' : Array Value) (h : Heap) (Q : Option Value → Heap → List Loc → Prop) : Prop :=
  MetFree l y (head1 [Cond.code y bytes maxL ret] rm) (fun a U => a = as' ∧ Z.Warmed39 U.vm ∧ U.heap = h) (fun _ _ _ _ _ => True) (fun _ U o U' => ∃ v L, o = .returned v ∧ Q v U'.heap L ∧ FrameEnd U o U' L rm.cells rm.slots)
variable {own : String} {index : Nat} {y z : MethodName} {bytes : ByteArray} {maxL W pc : Nat} {ret : Option FieldType} {rm : Room} {Qc : Option Value → Heap → List Loc → Prop} {argsL rest st : List Value} {Ls : Array Slot}
theorem Go.callS (X : Stand p l e R s m args below meth c T locs cells slots) (hx : p.tables.exec = Jvm.exec) (hZ : Z.Warmed39 s.vm) (hown : s.vm.findClass own = some m.cls)
    (wl : (Cond.methodLink own index y).before a0 Z = true) (ws : (Cond.static y).before a0 Z = true) (wz : (Cond.initialized y.cls).before a0 Z = true) (wc : (Cond.code y bytes maxL ret).before a0 Z = true)
    (hy : y.cls ≠ "java/lang/invoke/MethodHandle" ∧ y.cls ≠ "java/lang/invoke/VarHandle") (hM : MetAt l Z y bytes maxL ret rm argsL.toArray h Qc) (eT : T.heap = h) (hsize : Ls.size = c.maxLocals)
    (hlen : ∀ sig, parseMethodDescriptor y.desc = some sig → argsL.length = sig.parameters.length) (hd : decode c.code pc = .ok (.invokestatic index, 3)) (hst : st = argsL.reverse ++ rest)
    (hW : (rest.map fun v => v.category).sum ≤ W) (hf : rm.frames + 1 ≤ R.frames) (hl : W + (maxL + 11) + rm.locals ≤ R.locals) (hc : cells + rm.cells ≤ R.cells) (hs : slots + rm.slots ≤ R.slots)
    (k : ∀ v T' L', Stand p l e R s m args below meth c T' (locs ++ L') (cells + rm.cells) (slots + rm.slots) → Qc v T'.heap L' → Go p e below F T' (mkF m (pc + 3) Ls (v.toList ++ rest))) : Go p e below F T (mkF m pc Ls st) := by
  obtain ⟨v, vm₁, ⟨T', L', k', n'⟩, -, X', ⟨Lc, hQ, l1, y1, z1⟩, stp⟩ := Jvm.LawKit.callS X hx hown (mvT hZ wl) (mvT hZ ws) (mvT hZ wz) (mvT hZ wc) hy (backOf (W := W) hM hZ wc wz hf hl) (g := mkF m pc Ls st) rfl hsize hlen hst (by show 2 * 0 + _ ≤ _; omega) hd (fun _ _ => ⟨rfl, eT, hc, hs⟩)
  dsimp only [Pt.U, Pt.locs, Pt.cells, Pt.slots] at X' l1 y1 z1 stp hQ
  subst l1 y1 z1
  exact Go.of stp (k v T' Lc X' hQ)
theorem Go.callSP (X : Stand p l e R s m args below meth c T locs cells slots) (hx : p.tables.exec = Jvm.exec) (hZ : Z.Warmed39 s.vm) (hown : s.vm.findClass own = some m.cls)
    (wl : (Cond.methodLink own index y).before a0 Z = true) (ws : (Cond.static y).before a0 Z = true) (wz : (Cond.initialized y.cls).before a0 Z = true) (wc : (Cond.code y bytes maxL ret).before a0 Z = true)
    (hy : y.cls ≠ "java/lang/invoke/MethodHandle" ∧ y.cls ≠ "java/lang/invoke/VarHandle") {r : Option Value} {fr lo : Nat} (hM : MetAt l Z y bytes maxL ret { frames := fr, cells := 0, slots := 0, locals := lo } argsL.toArray h (PQ h r)) (eT : T.heap = h) (hsize : Ls.size = c.maxLocals)
    (hlen : ∀ sig, parseMethodDescriptor y.desc = some sig → argsL.length = sig.parameters.length) (hd : decode c.code pc = .ok (.invokestatic index, 3)) (hst : st = argsL.reverse ++ rest)
    (hW : (rest.map fun v => v.category).sum ≤ W) (hf : fr + 1 ≤ R.frames) (hl : W + (maxL + 11) + lo ≤ R.locals) (hc : cells ≤ R.cells) (hs : slots ≤ R.slots)
    (k : ∀ T', Stand p l e R s m args below meth c T' locs cells slots → T'.heap = h → Go p e below F T' (mkF m (pc + 3) Ls (r.toList ++ rest))) : Go p e below F T (mkF m pc Ls st) := by
  refine Go.callS X hx hZ hown wl ws wz wc hy hM eT hsize hlen hd hst hW hf hl hc hs fun v T' L' X' q => ?_
  obtain ⟨rfl, rfl, e'⟩ := q
  rw [List.append_nil] at X'
  exact k T' X' e'
theorem Go.callI (X : Stand p l e R s m args below meth c T locs cells slots) (hx : p.tables.exec = Jvm.exec) (hZ : Z.Warmed39 s.vm) (hy1 : y.name = "<init>") (hown : s.vm.findClass own = some m.cls)
    (wl : (Cond.methodLink own index y).before a0 Z = true) (wi : (Cond.instanceMethod y).before a0 Z = true) (wz : (Cond.initialized y.cls).before a0 Z = true) (wc : (Cond.code y bytes maxL none).before a0 Z = true)
    (hy : y.cls ≠ "java/lang/invoke/MethodHandle" ∧ y.cls ≠ "java/lang/invoke/VarHandle") {a : Addr} (hM : MetAt l Z y bytes maxL none rm (.ref a :: argsL).toArray h Qc) (eT : T.heap = h) (hsize : Ls.size = c.maxLocals)
    (hlen : ∀ sig, parseMethodDescriptor y.desc = some sig → argsL.length = sig.parameters.length) (hd : decode c.code pc = .ok (.invokespecial index, 3)) (hst : st = argsL.reverse ++ .ref a :: rest)
    (hW : (rest.map fun v => v.category).sum ≤ W) (hf : rm.frames + 1 ≤ R.frames) (hl : W + (maxL + 11) + rm.locals ≤ R.locals) (hc : cells + rm.cells ≤ R.cells) (hs : slots + rm.slots ≤ R.slots)
    (k : ∀ v T' L', Stand p l e R s m args below meth c T' (locs ++ L') (cells + rm.cells) (slots + rm.slots) → Qc v T'.heap L' → Go p e below F T' (mkF m (pc + 3) Ls (v.toList ++ rest))) : Go p e below F T (mkF m pc Ls st) := by
  obtain ⟨v, vm₁, ⟨T', L', k', n'⟩, -, X', ⟨Lc, hQ, l1, y1, z1⟩, stp⟩ := X.specialBack hx hy1 hown (mvT hZ wl) (mvT hZ wi) (mvT hZ wc) hy (backOf (W := W) hM hZ wc wz hf hl) (g := mkF m pc Ls st) rfl hsize (Steps.refl _) (a := a) hlen hst (by show 2 * 0 + _ ≤ _; omega) hd (fun _ _ => ⟨rfl, eT, hc, hs⟩)
  dsimp only [Pt.U, Pt.locs, Pt.cells, Pt.slots] at X' l1 y1 z1 stp hQ
  subst l1 y1 z1
  exact Go.via stp (k v T' Lc X' hQ)
theorem Go.callV (X : Stand p l e R s m args below meth c T locs cells slots) (hx : p.tables.exec = Jvm.exec) (hZ : Z.Warmed39 s.vm) (hown : s.vm.findClass own = some m.cls) {C : String}
    (wl : (Cond.methodLink own index y).before a0 Z = true) (wd : (Cond.declares y).before a0 Z = true) (hnf : NotFace s y) (wse : (Cond.selects C y z).before a0 Z = true) (wi : (Cond.instanceMethod z).before a0 Z = true) (wz : (Cond.initialized z.cls).before a0 Z = true) (wc : (Cond.code z bytes maxL ret).before a0 Z = true)
    (hy : y.cls ≠ "java/lang/invoke/MethodHandle" ∧ y.cls ≠ "java/lang/invoke/VarHandle") {a : Addr} (hM : MetAt l Z z bytes maxL ret rm (.ref a :: argsL).toArray h Qc) (eT : T.heap = h) (hE : Exa Z h a C) (hsize : Ls.size = c.maxLocals)
    (hlen : ∀ sig, parseMethodDescriptor y.desc = some sig → argsL.length = sig.parameters.length) (hd : decode c.code pc = .ok (.invokevirtual index, 3)) (hst : st = argsL.reverse ++ .ref a :: rest)
    (hW : (rest.map fun v => v.category).sum ≤ W) (hf : rm.frames + 1 ≤ R.frames) (hl : W + (maxL + 11) + rm.locals ≤ R.locals) (hc : cells + rm.cells ≤ R.cells) (hs : slots + rm.slots ≤ R.slots)
    (k : ∀ v T' L', Stand p l e R s m args below meth c T' (locs ++ L') (cells + rm.cells) (slots + rm.slots) → Qc v T'.heap L' → Go p e below F T' (mkF m (pc + 3) Ls (v.toList ++ rest))) : Go p e below F T (mkF m pc Ls st) := by
  obtain ⟨cq, kq, q1, q2, q3⟩ := isOf hZ eT hE
  obtain ⟨v, vm₁, ⟨T', L', k', n'⟩, -, X', ⟨Lc, hQ, l1, y1, z1⟩, stp⟩ := X.virtualBack hx (y := y) (z := z) hown (mvT hZ wl) (mvT hZ wd) hnf (mvT hZ wse) (mvT hZ wi) hy (backOf (W := W) hM hZ wc wz hf hl) q1 q3 (g := mkF m pc Ls st) rfl hsize (Steps.refl _) hlen hst (by show 2 * 0 + _ ≤ _; omega) hd (fun _ _ => ⟨rfl, eT, hc, hs⟩)
  dsimp only [Pt.U, Pt.locs, Pt.cells, Pt.slots] at X' l1 y1 z1 stp hQ
  subst l1 y1 z1
  exact Go.via stp (k v T' Lc X' hQ)
theorem Go.callVP (X : Stand p l e R s m args below meth c T locs cells slots) (hx : p.tables.exec = Jvm.exec) (hZ : Z.Warmed39 s.vm) (hown : s.vm.findClass own = some m.cls) {C : String}
    (wl : (Cond.methodLink own index y).before a0 Z = true) (wd : (Cond.declares y).before a0 Z = true) (hnf : NotFace s y) (wse : (Cond.selects C y z).before a0 Z = true) (wi : (Cond.instanceMethod z).before a0 Z = true) (wz : (Cond.initialized z.cls).before a0 Z = true) (wc : (Cond.code z bytes maxL ret).before a0 Z = true)
    (hy : y.cls ≠ "java/lang/invoke/MethodHandle" ∧ y.cls ≠ "java/lang/invoke/VarHandle") {a : Addr} {r : Option Value} {fr lo : Nat} (hM : MetAt l Z z bytes maxL ret { frames := fr, cells := 0, slots := 0, locals := lo } (.ref a :: argsL).toArray h (PQ h r)) (eT : T.heap = h) (hE : Exa Z h a C) (hsize : Ls.size = c.maxLocals)
    (hlen : ∀ sig, parseMethodDescriptor y.desc = some sig → argsL.length = sig.parameters.length) (hd : decode c.code pc = .ok (.invokevirtual index, 3)) (hst : st = argsL.reverse ++ .ref a :: rest)
    (hW : (rest.map fun v => v.category).sum ≤ W) (hf : fr + 1 ≤ R.frames) (hl : W + (maxL + 11) + lo ≤ R.locals) (hc : cells ≤ R.cells) (hs : slots ≤ R.slots)
    (k : ∀ T', Stand p l e R s m args below meth c T' locs cells slots → T'.heap = h → Go p e below F T' (mkF m (pc + 3) Ls (r.toList ++ rest))) : Go p e below F T (mkF m pc Ls st) := by
  refine Go.callV X hx hZ hown wl wd hnf wse wi wz wc hy hM eT hE hsize hlen hd hst hW hf hl hc hs fun v T' L' X' q => ?_
  obtain ⟨rfl, rfl, e'⟩ := q
  rw [List.append_nil] at X'
  exact k T' X' e'
theorem Go.callIP (X : Stand p l e R s m args below meth c T locs cells slots) (hx : p.tables.exec = Jvm.exec) (hZ : Z.Warmed39 s.vm) (hy1 : y.name = "<init>") (hown : s.vm.findClass own = some m.cls)
    (wl : (Cond.methodLink own index y).before a0 Z = true) (wi : (Cond.instanceMethod y).before a0 Z = true) (wz : (Cond.initialized y.cls).before a0 Z = true) (wc : (Cond.code y bytes maxL none).before a0 Z = true)
    (hy : y.cls ≠ "java/lang/invoke/MethodHandle" ∧ y.cls ≠ "java/lang/invoke/VarHandle") {a : Addr} {fr lo : Nat} (hM : MetAt l Z y bytes maxL none { frames := fr, cells := 0, slots := 0, locals := lo } (.ref a :: argsL).toArray h (PQ h none)) (eT : T.heap = h) (hsize : Ls.size = c.maxLocals)
    (hlen : ∀ sig, parseMethodDescriptor y.desc = some sig → argsL.length = sig.parameters.length) (hd : decode c.code pc = .ok (.invokespecial index, 3)) (hst : st = argsL.reverse ++ .ref a :: rest)
    (hW : (rest.map fun v => v.category).sum ≤ W) (hf : fr + 1 ≤ R.frames) (hl : W + (maxL + 11) + lo ≤ R.locals) (hc : cells ≤ R.cells) (hs : slots ≤ R.slots)
    (k : ∀ T', Stand p l e R s m args below meth c T' locs cells slots → T'.heap = h → Go p e below F T' (mkF m (pc + 3) Ls rest)) : Go p e below F T (mkF m pc Ls st) := by
  refine Go.callI X hx hZ hy1 hown wl wi wz wc hy hM eT hsize hlen hd hst hW hf hl hc hs fun v T' L' X' q => ?_
  obtain ⟨rfl, rfl, e'⟩ := q
  rw [List.append_nil] at X'
  exact k T' X' e'
end Going
end Jvm.RoadKit
namespace Jvm.RoadKit
open Sem ClassFile Op Lib Jvm.Stand Jvm.Free Jvm.LawKit
section Heaping
variable {p : Program} {l : Launch} {e : Env} {R : Room} {s : State} {m : MethodId} {args : Array Value} {below : List Frame} {meth : Method} {c : Code} {T : State} {locs : List Loc} {cells slots : Nat} {Fi : Option Value → State → Prop} {Z : State} {a0 : Array Value} {h : Heap} {a : Addr} {k : ClassId} {ty : FieldType} {z j x : Int32} {vs rest st : List Value} {dv v : Value} {pc : Nat} {Ls : Array Slot} {own C O n d host : String} {index nn : Nat}
theorem Arv.load (F : Arv Z h a k ty z vs dv) (hj : ¬ j < 0 ∧ j < z) : ∃ cl, Arr Z h a cl ty ∧ ¬ (j < 0 ∨ cl.slots.size ≤ j.toNatClampNeg) ∧ cl.slots[j.toNatClampNeg]? = some (vs.getD j.toNatClampNeg dv) := by
  obtain ⟨cl, A, -, S, -, H, -⟩ := F
  exact ⟨cl, A, inb_of S hj, H.at (inb_of S hj) rfl⟩
theorem Go.iaload (X : Stand p l e R s m args below meth c T locs cells slots) (hx : p.tables.exec = Jvm.exec) (hZ : Z.Warmed39 s.vm) (eT : T.heap = h) (F : Arv Z h a k .int z vs dv) (hj : ¬ j < 0 ∧ j < z) (hv : vs.getD j.toNatClampNeg dv = v) (hd : decode c.code pc = .ok (.iaload, 1)) (kk : Go p e below Fi T (mkF m (pc + 1) Ls (v :: rest))) : Go p e below Fi T (mkF m pc Ls (.int j :: .ref a :: rest)) := by
  obtain ⟨cl, A, i1, i2⟩ := F.load hj
  rw [hv] at i2
  exact Go.of (fun t q => X.iaload hx (by rw [eT]; exact A.1) (State.isArrayOf_alike hZ.alike A.2.1) A.2.2 i1 i2 (g := mkF m pc Ls (.int j :: .ref a :: rest)) rfl rfl hd t q) kk
theorem Go.laload (X : Stand p l e R s m args below meth c T locs cells slots) (hx : p.tables.exec = Jvm.exec) (hZ : Z.Warmed39 s.vm) (eT : T.heap = h) (F : Arv Z h a k .long z vs dv) (hj : ¬ j < 0 ∧ j < z) (hv : vs.getD j.toNatClampNeg dv = v) (hd : decode c.code pc = .ok (.laload, 1)) (kk : Go p e below Fi T (mkF m (pc + 1) Ls (v :: rest))) : Go p e below Fi T (mkF m pc Ls (.int j :: .ref a :: rest)) := by
  obtain ⟨cl, A, i1, i2⟩ := F.load hj
  rw [hv] at i2
  exact Go.of (fun t q => X.laload hx (by rw [eT]; exact A.1) (State.isArrayOf_alike hZ.alike A.2.1) A.2.2 i1 i2 (g := mkF m pc Ls (.int j :: .ref a :: rest)) rfl rfl hd t q) kk
theorem Go.baload (X : Stand p l e R s m args below meth c T locs cells slots) (hx : p.tables.exec = Jvm.exec) (hZ : Z.Warmed39 s.vm) (eT : T.heap = h) (F : Arv Z h a k .byte z vs dv) (hj : ¬ j < 0 ∧ j < z) (hv : vs.getD j.toNatClampNeg dv = v) (hd : decode c.code pc = .ok (.baload, 1)) (kk : Go p e below Fi T (mkF m (pc + 1) Ls (v :: rest))) : Go p e below Fi T (mkF m pc Ls (.int j :: .ref a :: rest)) := by
  obtain ⟨cl, A, i1, i2⟩ := F.load hj
  rw [hv] at i2
  exact Go.of (fun t q => X.baloadBytes hx (by rw [eT]; exact A.1) (State.isArrayOf_alike hZ.alike A.2.1) A.2.2 i1 i2 (g := mkF m pc Ls (.int j :: .ref a :: rest)) rfl rfl hd t q) kk
theorem Go.caload (X : Stand p l e R s m args below meth c T locs cells slots) (hx : p.tables.exec = Jvm.exec) (hZ : Z.Warmed39 s.vm) (eT : T.heap = h) (F : Arv Z h a k .char z vs dv) (hj : ¬ j < 0 ∧ j < z) (hv : vs.getD j.toNatClampNeg dv = v) (hd : decode c.code pc = .ok (.caload, 1)) (kk : Go p e below Fi T (mkF m (pc + 1) Ls (v :: rest))) : Go p e below Fi T (mkF m pc Ls (.int j :: .ref a :: rest)) := by
  obtain ⟨cl, A, i1, i2⟩ := F.load hj
  rw [hv] at i2
  exact Go.of (fun t q => X.caload hx (by rw [eT]; exact A.1) (State.isArrayOf_alike hZ.alike A.2.1) A.2.2 i1 i2 (g := mkF m pc Ls (.int j :: .ref a :: rest)) rfl rfl hd t q) kk
theorem Go.aaload (X : Stand p l e R s m args below meth c T locs cells slots) (hx : p.tables.exec = Jvm.exec) (hZ : Z.Warmed39 s.vm) (eT : T.heap = h) (F : Arv Z h a k ty z vs dv) (hty : ty.isReference = true) (hj : ¬ j < 0 ∧ j < z) (hv : vs.getD j.toNatClampNeg dv = v) (hd : decode c.code pc = .ok (.aaload, 1)) (kk : Go p e below Fi T (mkF m (pc + 1) Ls (v :: rest))) : Go p e below Fi T (mkF m pc Ls (.int j :: .ref a :: rest)) := by
  obtain ⟨cl, A, i1, i2⟩ := F.load hj
  rw [hv] at i2
  exact Go.of (fun t q => X.aaload hx (by rw [eT]; exact A.1) (State.isArrayOf_alike hZ.alike A.2.1) hty A.2.2 i1 i2 (g := mkF m pc Ls (.int j :: .ref a :: rest)) rfl rfl hd t q) kk
theorem Go.daload (X : Stand p l e R s m args below meth c T locs cells slots) (hx : p.tables.exec = Jvm.exec) (hZ : Z.Warmed39 s.vm) (eT : T.heap = h) (F : Arv Z h a k .double z vs dv) (hj : ¬ j < 0 ∧ j < z) (hv : vs.getD j.toNatClampNeg dv = v) (hd : decode c.code pc = .ok (.daload, 1)) (kk : Go p e below Fi T (mkF m (pc + 1) Ls (v :: rest))) : Go p e below Fi T (mkF m pc Ls (.int j :: .ref a :: rest)) := by
  obtain ⟨cl, A, i1, i2⟩ := F.load hj
  rw [hv] at i2
  exact Go.of (fun t q => X.daload hx (by rw [eT]; exact A.1) (State.isArrayOf_alike hZ.alike A.2.1) A.2.2 i1 i2 (g := mkF m pc Ls (.int j :: .ref a :: rest)) rfl rfl hd t q) kk
theorem Go.dastore {x : UInt64} (X : Stand p l e R s m args below meth c T locs cells slots) (hx : p.tables.exec = Jvm.exec) (hZ : Z.Warmed39 s.vm) (eT : T.heap = h) (F : Arv Z h a k .double z vs dv) (hj : ¬ j < 0 ∧ j < z) (i : Nat) (hji : j.toNatClampNeg = i) (hi : i < vs.length) (hd : decode c.code pc = .ok (.dastore, 1))
    (kk : ∀ T' h', Stand p l e R s m args below meth c T' (locs ++ [⟨a, i⟩]) cells slots → T'.heap = h' → Wr h h' a i (.double x) → Arv Z h' a k .double z (vs.set i (.double x)) dv → Go p e below Fi T' (mkF m (pc + 1) Ls rest)) : Go p e below Fi T (mkF m pc Ls (.double x :: .int j :: .ref a :: rest)) := by
  obtain ⟨cl, A, q, S, M, H, G⟩ := F
  subst hji
  obtain ⟨T', h', X', e', W', st⟩ := stD X hx hZ eT A (inb_of S hj) (g := mkF m pc Ls (.double x :: .int j :: .ref a :: rest)) rfl rfl hd
  exact Go.of st (kk T' h' X' e' W' (Arv.set A q S M H G rfl W' _ rfl hi))
theorem Go.len (X : Stand p l e R s m args below meth c T locs cells slots) (hx : p.tables.exec = Jvm.exec) (hZ : Z.Warmed39 s.vm) (eT : T.heap = h) (F : Arv Z h a k ty z vs dv) (hd : decode c.code pc = .ok (.arraylength, 1)) (kk : Go p e below Fi T (mkF m (pc + 1) Ls (.int z :: rest))) : Go p e below Fi T (mkF m pc Ls (.ref a :: rest)) := by
  obtain ⟨cl, A, -, S, M, -, -⟩ := F
  exact Go.of (fun t q => X.arraylength hx (a := a) (cell := cl) (ty := ty) (by rw [eT]; exact A.1) (State.isArrayOf_alike hZ.alike A.2.1) (g := mkF m pc Ls (.ref a :: rest)) rfl (rest := rest) rfl hd t (by rw [len_of S M]; exact q)) kk
theorem Go.iastore (X : Stand p l e R s m args below meth c T locs cells slots) (hx : p.tables.exec = Jvm.exec) (hZ : Z.Warmed39 s.vm) (eT : T.heap = h) (F : Arv Z h a k .int z vs dv) (hj : ¬ j < 0 ∧ j < z) (i : Nat) (hji : j.toNatClampNeg = i) (hi : i < vs.length) (hd : decode c.code pc = .ok (.iastore, 1))
    (kk : ∀ T' h', Stand p l e R s m args below meth c T' (locs ++ [⟨a, i⟩]) cells slots → T'.heap = h' → Wr h h' a i (.int x) → Arv Z h' a k .int z (vs.set i (.int x)) dv → Go p e below Fi T' (mkF m (pc + 1) Ls rest)) : Go p e below Fi T (mkF m pc Ls (.int x :: .int j :: .ref a :: rest)) := by
  obtain ⟨cl, A, q, S, M, H, G⟩ := F
  subst hji
  obtain ⟨T', h', X', e', W', st⟩ := stI X hx hZ eT A (inb_of S hj) (g := mkF m pc Ls (.int x :: .int j :: .ref a :: rest)) rfl rfl hd
  exact Go.of st (kk T' h' X' e' W' (Arv.set A q S M H G rfl W' _ rfl hi))
theorem Go.lastore {x : Int64} (X : Stand p l e R s m args below meth c T locs cells slots) (hx : p.tables.exec = Jvm.exec) (hZ : Z.Warmed39 s.vm) (eT : T.heap = h) (F : Arv Z h a k .long z vs dv) (hj : ¬ j < 0 ∧ j < z) (i : Nat) (hji : j.toNatClampNeg = i) (hi : i < vs.length) (hd : decode c.code pc = .ok (.lastore, 1))
    (kk : ∀ T' h', Stand p l e R s m args below meth c T' (locs ++ [⟨a, i⟩]) cells slots → T'.heap = h' → Wr h h' a i (.long x) → Arv Z h' a k .long z (vs.set i (.long x)) dv → Go p e below Fi T' (mkF m (pc + 1) Ls rest)) : Go p e below Fi T (mkF m pc Ls (.long x :: .int j :: .ref a :: rest)) := by
  obtain ⟨cl, A, q, S, M, H, G⟩ := F
  subst hji
  obtain ⟨T', h', X', e', W', st⟩ := stJ X hx hZ eT A (inb_of S hj) (g := mkF m pc Ls (.long x :: .int j :: .ref a :: rest)) rfl rfl hd
  exact Go.of st (kk T' h' X' e' W' (Arv.set A q S M H G rfl W' _ rfl hi))
theorem Go.bastore (X : Stand p l e R s m args below meth c T locs cells slots) (hx : p.tables.exec = Jvm.exec) (hZ : Z.Warmed39 s.vm) (eT : T.heap = h) (F : Arv Z h a k .byte z vs dv) (hj : ¬ j < 0 ∧ j < z) (i : Nat) (hji : j.toNatClampNeg = i) (hi : i < vs.length) (hd : decode c.code pc = .ok (.bastore, 1))
    (kk : ∀ T' h', Stand p l e R s m args below meth c T' (locs ++ [⟨a, i⟩]) cells slots → T'.heap = h' → Wr h h' a i (.int (nar .byte x)) → Arv Z h' a k .byte z (vs.set i (.int (nar .byte x))) dv → Go p e below Fi T' (mkF m (pc + 1) Ls rest)) : Go p e below Fi T (mkF m pc Ls (.int x :: .int j :: .ref a :: rest)) := by
  obtain ⟨cl, A, q, S, M, H, G⟩ := F
  subst hji
  obtain ⟨T', h', X', e', W', st⟩ := stB X hx hZ eT A (inb_of S hj) (g := mkF m pc Ls (.int x :: .int j :: .ref a :: rest)) rfl rfl hd
  exact Go.of st (kk T' h' X' e' W' (Arv.set A q S M H G (fits_nar_byte _) W' _ rfl hi))
theorem Go.castore (X : Stand p l e R s m args below meth c T locs cells slots) (hx : p.tables.exec = Jvm.exec) (hZ : Z.Warmed39 s.vm) (eT : T.heap = h) (F : Arv Z h a k .char z vs dv) (hj : ¬ j < 0 ∧ j < z) (i : Nat) (hji : j.toNatClampNeg = i) (hi : i < vs.length) (hd : decode c.code pc = .ok (.castore, 1))
    (kk : ∀ T' h', Stand p l e R s m args below meth c T' (locs ++ [⟨a, i⟩]) cells slots → T'.heap = h' → Wr h h' a i (.int (nar .char x)) → Arv Z h' a k .char z (vs.set i (.int (nar .char x))) dv → Go p e below Fi T' (mkF m (pc + 1) Ls rest)) : Go p e below Fi T (mkF m pc Ls (.int x :: .int j :: .ref a :: rest)) := by
  obtain ⟨cl, A, q, S, M, H, G⟩ := F
  subst hji
  obtain ⟨T', h', X', e', W', st⟩ := stC X hx hZ eT A (inb_of S hj) (g := mkF m pc Ls (.int x :: .int j :: .ref a :: rest)) rfl rfl hd
  exact Go.of st (kk T' h' X' e' W' (Arv.set A q S M H G (fits_nar_char _) W' _ rfl hi))
theorem Go.newarr (X : Stand p l e R s m args below meth c T locs cells slots) (hx : p.tables.exec = Jvm.exec) (hZ : Z.Warmed39 s.vm) {aty : ArrayType} (w : (Cond.arrayClass (newarray.typeOf aty)).before a0 Z = true) (eT : T.heap = h) (cap : Nat) (hn : ¬ z < 0) (hcap : z.toNatClampNeg = cap) (hb : cap * 8 ≤ 536870912) (hc : cells + 1 ≤ R.cells) (hl : slots + cap ≤ R.slots) (hd : decode c.code pc = .ok (.newarray aty, 2))
    (kk : ∀ T' h' b k, b = h.size → Stand p l e R s m args below meth c T' locs (cells + 1) (slots + cap) → T'.heap = h' → Ext h h' → Arv Z h' b k (newarray.typeOf aty) z (List.replicate cap (defaultValue (newarray.typeOf aty))) (defaultValue (newarray.typeOf aty)) → Go p e below Fi T' (mkF m (pc + 2) Ls (.ref b :: rest))) : Go p e below Fi T (mkF m pc Ls (.int z :: rest)) := by
  obtain ⟨T', h', kA, X', e', E', A', st⟩ := newP X hx hZ w eT (g := mkF m pc Ls (.int z :: rest)) rfl hd rfl hn (cap := cap) (Nat.le_of_eq hcap) hb hc hl
  exact Go.of st (kk T' h' _ kA rfl X' e' E' ((Arv.new A' hn).pad (pad_rep [] _ cap)))
theorem Go.newarrE (X : Stand p l e R s m args below meth c T locs cells slots) (hx : p.tables.exec = Jvm.exec) (hZ : Z.Warmed39 s.vm) {aty : ArrayType} {ad : String} (had : "[" ++ (newarray.typeOf aty).toString = ad) (w : (Cond.arrayClass (newarray.typeOf aty)).before a0 Z = true) (eT : T.heap = h) (cap : Nat) (hn : ¬ z < 0) (hcap : z.toNatClampNeg = cap) (hb : cap * 8 ≤ 536870912) (hc : cells + 1 ≤ R.cells) (hl : slots + cap ≤ R.slots) (hd : decode c.code pc = .ok (.newarray aty, 2))
    (kk : ∀ T' h' b k, b = h.size → Stand p l e R s m args below meth c T' locs (cells + 1) (slots + cap) → T'.heap = h' → Ext h h' → Arv Z h' b k (newarray.typeOf aty) z (List.replicate cap (defaultValue (newarray.typeOf aty))) (defaultValue (newarray.typeOf aty)) → Exa Z h' b ad → Go p e below Fi T' (mkF m (pc + 2) Ls (.ref b :: rest))) : Go p e below Fi T (mkF m pc Ls (.int z :: rest)) := by
  obtain ⟨T', h', kA, X', e', E', A', EA, st⟩ := newPE X hx hZ w eT (g := mkF m pc Ls (.int z :: rest)) rfl hd rfl hn (cap := cap) (Nat.le_of_eq hcap) hb hc hl had
  exact Go.of st (kk T' h' _ kA rfl X' e' E' ((Arv.new A' hn).pad (pad_rep [] _ cap)) EA)
theorem Go.clone (X : Stand p l e R s m args below meth c T locs cells slots) (hx : p.tables.exec = Jvm.exec) (hZ : Z.Warmed39 s.vm) {ad : String} (hown : s.vm.findClass own = some m.cls)
    (w1 : (Cond.methodLink own index ⟨ad, "clone", "()Ljava/lang/Object;"⟩).before a0 Z = true) (w2 : (Cond.sameMethod ad "java/lang/Object" "clone" "()Ljava/lang/Object;").before a0 Z = true) (w3 : (Cond.native ⟨"java/lang/Object", "clone", "()Ljava/lang/Object;"⟩).before a0 Z = true)
    (w4 : (Cond.instanceMethod ⟨"java/lang/Object", "clone", "()Ljava/lang/Object;"⟩).before a0 Z = true) (w5 : (Cond.selects ad ⟨ad, "clone", "()Ljava/lang/Object;"⟩ ⟨"java/lang/Object", "clone", "()Ljava/lang/Object;"⟩).before a0 Z = true) (w6 : (Cond.castable ad "java/lang/Cloneable").before a0 Z = true)
    (eT : T.heap = h) (F : Arv Z h a k ty z vs dv) (E : Exa Z h a ad) (hsize : Ls.size = c.maxLocals) (hd : decode c.code pc = .ok (.invokevirtual index, 3)) (hf : 1 ≤ R.frames) {W cap : Nat} (hW : (rest.map fun v => v.category).sum ≤ W) (hl : W + 14 ≤ R.locals) (hcap : z.toNatClampNeg ≤ cap) (hc : cells + 1 ≤ R.cells) (hsl : slots + cap ≤ R.slots)
    (kk : ∀ T' h' b, b = h.size → Stand p l e R s m args below meth c T' locs (cells + 1) (slots + cap) → T'.heap = h' → Ext h h' → Arv Z h' b k ty z vs dv → Exa Z h' b ad → Go p e below Fi T' (mkF m (pc + 3) Ls (.ref b :: rest))) : Go p e below Fi T (mkF m pc Ls (.ref a :: rest)) := by
  obtain ⟨cl, A, q1, S, q3, H, G⟩ := F
  have FC : FitC Z cl := fitC_of A fun i hi v hv => by rw [H i hi] at hv; cases hv; exact G i hi
  obtain ⟨T', h', X', e', ex, A', E', st⟩ := cloneA X hx hZ hown w1 w2 w3 w4 w5 w6 eT A E FC (g := mkF m pc Ls (.ref a :: rest)) rfl hsize rfl hd hf (by show 2 * 0 + _ ≤ W; omega) hl (by rw [S]; exact hcap) hc hsl
  exact Go.of st (kk T' h' _ rfl X' e' ex ⟨cloneOf cl, A', q1, S, q3, H, G⟩ E')
theorem Go.castTo (X : Stand p l e R s m args below meth c T locs cells slots) (hx : p.tables.exec = Jvm.exec) (hZ : Z.Warmed39 s.vm) (hown : s.vm.findClass own = some m.cls) {K : String} (w : (Cond.classLink own index K).before a0 Z = true) (eT : T.heap = h) (I : Ins Z h a K true) (hd : decode c.code pc = .ok (.checkcast index, 3))
    (kk : ∀ T', Stand p l e R s m args below meth c T' locs cells slots → T'.heap = h → Go p e below Fi T' (mkF m (pc + 3) Ls (.ref a :: rest))) : Go p e below Fi T (mkF m pc Ls (.ref a :: rest)) := by
  obtain ⟨T', X', e', st⟩ := castY X hx hZ hown w eT I (g := mkF m pc Ls (.ref a :: rest)) rfl rfl hd
  exact Go.of st (kk T' X' e')
theorem Go.new (X : Stand p l e R s m args below meth c T locs cells slots) (hx : p.tables.exec = Jvm.exec) (hZ : Z.Warmed39 s.vm) (hown : s.vm.findClass own = some m.cls) (w : (Cond.classLink own index C).before a0 Z = true) (wi : (Cond.instantiable C nn).before a0 Z = true) (wz : (Cond.initialized C).before a0 Z = true) (eT : T.heap = h) (hd : decode c.code pc = .ok (.new index, 3)) (hc : cells + 1 ≤ R.cells) (hl : slots + nn ≤ R.slots)
    (kk : ∀ T' h' b, b = h.size → Stand p l e R s m args below meth c T' locs (cells + 1) (slots + nn) → T'.heap = h' → Ext h h' → Exa Z h' b C → (∀ {O nm d : String} {ty : FieldType}, Laid Z a0 C O nm d → parseFieldDescriptor d = some ty → Fld Z h' b O nm d (defaultValue ty)) → Go p e below Fi T' (mkF m (pc + 3) Ls (.ref b :: st))) : Go p e below Fi T (mkF m pc Ls st) := by
  obtain ⟨T', h', X', e', E', A', D', -, stp⟩ := newO X hx hZ hown w wi wz eT (g := mkF m pc Ls st) rfl hd hc hl
  exact Go.of stp (kk T' h' _ rfl X' e' E' A' D')
theorem Go.getf (X : Stand p l e R s m args below meth c T locs cells slots) (hx : p.tables.exec = Jvm.exec) (hZ : Z.Warmed39 s.vm) (hown : s.vm.findClass own = some m.cls) {R0 : String} (w : (Cond.fieldLink own index R0 n d).before a0 Z = true) (via : Via Z R0 O n d) (eT : T.heap = h) (F : Fld Z h a O n d v) (hd : decode c.code pc = .ok (.getfield index, 3))
    (kk : ∀ T', Stand p l e R s m args below meth c T' locs cells slots → T'.heap = h → Go p e below Fi T' (mkF m (pc + 3) Ls (v :: rest))) : Go p e below Fi T (mkF m pc Ls (.ref a :: rest)) := by
  obtain ⟨T', X', e', st⟩ := getF X hx hZ hown (host := "") (Or.inl w) via eT F (g := mkF m pc Ls (.ref a :: rest)) rfl rfl hd
  exact Go.of st (kk T' X' e')
theorem Go.gets (X : Stand p l e R s m args below meth c T locs cells slots) (hx : p.tables.exec = Jvm.exec) (hZ : Z.Warmed39 s.vm) (hown : s.vm.findClass own = some m.cls) {R0 : String} (w : (Cond.fieldLink own index R0 n d).before a0 Z = true) (via : Via Z R0 O n d) (eT : T.heap = h) (F : Sta Z h O n d v) (hd : decode c.code pc = .ok (.getstatic index, 3))
    (kk : ∀ T', Stand p l e R s m args below meth c T' locs cells slots → T'.heap = h → Go p e below Fi T' (mkF m (pc + 3) Ls (v :: st))) : Go p e below Fi T (mkF m pc Ls st) := by
  obtain ⟨T', X', e', stp⟩ := getS2 X hx hZ hown (host := "") (Or.inl w) via eT F (g := mkF m pc Ls st) rfl hd
  exact Go.of stp (kk T' X' e')
theorem Go.putf (X : Stand p l e R s m args below meth c T locs cells slots) (hx : p.tables.exec = Jvm.exec) (hZ : Z.Warmed39 s.vm) (hown : s.vm.findClass own = some m.cls) {R0 : String} (w : (Cond.fieldLink own index R0 n d).before a0 Z = true) (via : Via Z R0 O n d) (eT : T.heap = h) {old : Value} (F : Fld Z h a O n d old) (E : Exa Z h a C) (L : (Cond.lays C O n d).before a0 Z = true ∨ ((Cond.laysFinal C O n d).before a0 Z = true ∧ own = O ∧ meth.name = "<init>")) (wi : (Cond.instantiable C nn).before a0 Z = true) (hty : parseFieldDescriptor d = some ty) {v' : Value} (hn : narrow ty v = v') (hf : fits ty v' = true) (hd : decode c.code pc = .ok (.putfield index, 3))
    (kk : ∀ T' h', Stand p l e R s m args below meth c T' (locs ++ [⟨a, slotOf Z O n d⟩]) cells slots → T'.heap = h' → Wr h h' a (slotOf Z O n d) v' → Fld Z h' a O n d v' → Exa Z h' a C → Go p e below Fi T' (mkF m (pc + 3) Ls rest)) : Go p e below Fi T (mkF m pc Ls (v :: .ref a :: rest)) := by
  obtain ⟨T', h', X', e', W', st⟩ := putFN X hx hZ hown w via eT F E L wi hty hn hf (g := mkF m pc Ls (v :: .ref a :: rest)) rfl rfl hd
  exact Go.of st (kk T' h' X' e' W' (F.same W') (E.wr W'))
theorem Go.initObj (X : Stand p l e R s m args below meth c T locs cells slots) (hx : p.tables.exec = Jvm.exec) (hZ : Z.Warmed39 s.vm) (hown : s.vm.findClass own = some m.cls) (w1 : (Cond.methodLink own index Lib.objectInit).before a0 Z = true) (w2 : (Cond.instanceMethod Lib.objectInit).before a0 Z = true) (w3 : (Cond.code Lib.objectInit ⟨#[0xb1]⟩ 1 none).before a0 Z = true) (eT : T.heap = h) (hsize : Ls.size = c.maxLocals) (hd : decode c.code pc = .ok (.invokespecial index, 3)) (hf : 1 ≤ R.frames) {W : Nat} (hW : (rest.map fun v => v.category).sum ≤ W) (hl : W + 12 ≤ R.locals)
    (kk : ∀ T', Stand p l e R s m args below meth c T' locs cells slots → T'.heap = h → Go p e below Fi T' (mkF m (pc + 3) Ls rest)) : Go p e below Fi T (mkF m pc Ls (.ref a :: rest)) := by
  obtain ⟨T', X', e', st⟩ := initO X hx hZ hown w1 w2 w3 eT (g := mkF m pc Ls (.ref a :: rest)) rfl hsize rfl hd hf (W := W) (by show 2 * 0 + _ ≤ _; omega) hl
  exact Go.of st (kk T' X' e')
end Heaping
end Jvm.RoadKit
namespace Jvm.Pilot.@@N@@
open Jvm Jvm.ClassFile Sem Op Lib Jvm.Free Jvm.Stand Jvm.LawKit Jvm.RoadKit Bundle Jvm.Pilot.@@N@@.Jvm.D
def own_tm (y m : Int32) : Int64 := (12 : Int64) * y.toInt64 + m.toInt64
theorem own_cmp0 {x y : Int64} (h : x = y) : XS.cmpL x y = 0 := by
  subst h; simp [XS.cmpL]
theorem own_l1 (y m : Int32) : own_tm y m = own_tm y 0 + own_tm 0 m := by
  have e : (0 : Int32).toInt64 = 0 := rfl
  simp only [own_tm, e]; simp
theorem own_l2 (m : Int32) : own_tm 0 m = m.toInt64 := by
  have e : (0 : Int32).toInt64 = 0 := rfl
  simp only [own_tm, e]; simp
theorem own_half (y : Int32) : (y >>> ((1 : Int32) &&& 31)).toInt = y.toInt / 2 := by
  have h : (y >>> ((1 : Int32) &&& 31)).toInt = y.toInt >>> 1 := by
    show ((y >>> ((1 : Int32) &&& 31)).toBitVec).toInt = _
    rw [Int32.toBitVec_shiftRight]
    show (y.toBitVec.sshiftRight 1).toInt = _
    rw [BitVec.toInt_sshiftRight]; rfl
  rw [h, Int.shiftRight_eq_div_pow]; rfl
theorem own_odd (y : Int32) : (y &&& 1).toInt = y.toInt % 2 := by
  show ((y &&& 1).toBitVec).toInt = _
  rw [Int32.toBitVec_and]
  show (y.toBitVec &&& 1#32).toInt = y.toBitVec.toInt % 2
  rw [BitVec.toInt_eq_toNat_cond, BitVec.toInt_eq_toNat_cond, BitVec.toNat_and]
  have e : (1#32).toNat = 2 ^ 1 - 1 := rfl
  rw [e, Nat.and_two_pow_sub_one_eq_mod]
  have := y.toBitVec.isLt
  split <;> split <;> omega
theorem own_split (y : Int32) : y.toInt64 = 2 * (y >>> ((1 : Int32) &&& 31)).toInt64 + (y &&& 1).toInt64 := by
  apply Int64.toInt_inj.mp
  rw [Int64.toInt_add, Int64.toInt_mul, Int32.toInt_toInt64, Int32.toInt_toInt64, Int32.toInt_toInt64, own_half, own_odd]
  have h1 := y.toInt_lt; have h2 := y.le_toInt
  have e : (2 : Int64).toInt = 2 := rfl
  rw [e, Int.bmod_eq_of_le (n := 2 * (y.toInt / 2)) (by omega) (by omega), Int.bmod_eq_of_le (by omega) (by omega)]
  omega
theorem own_l3 (y : Int32) : own_tm y 0 = 2 * own_tm (y >>> ((1 : Int32) &&& 31)) 0 + 12 * (y &&& 1).toInt64 := by
  have e : (0 : Int32).toInt64 = 0 := rfl
  simp only [own_tm, e]
  rw [own_split y]
  generalize (y >>> ((1 : Int32) &&& 31)).toInt64 = u
  generalize (y &&& 1).toInt64 = v
  simp only [Int64.add_zero]
  rw [Int64.mul_add, ← Int64.mul_assoc, ← Int64.mul_assoc]
  rfl
theorem own_l4 : own_tm 1 0 = 12 := by decide
theorem own_dsc0 : parseMethodDescriptor "()V" = some ⟨[], none⟩ := by decide +kernel
theorem own_dsc1 : parseMethodDescriptor "(III)V" = some ⟨[.int, .int, .int], none⟩ := by decide +kernel
theorem own_dsc2 : parseMethodDescriptor "()J" = some ⟨[], some .long⟩ := by decide +kernel
theorem own_rd0 : decode jdk_30_method_1_code 0 = .ok (.aload_n 0, 1) := by decide +kernel
theorem own_rd1 : decode jdk_30_method_1_code 1 = .ok (.invokespecial 1, 3) := by decide +kernel
theorem own_rd4 : decode jdk_30_method_1_code 4 = .ok (.return_, 1) := by decide +kernel
set_option maxRecDepth 65536 in
set_option maxHeartbeats 40000000 in
theorem own_rmR (l : Launch) (Z : State) (a0 : Array Value) (hw : ∀ d ∈ tables_1, d.before a0 Z = true) (a : Addr) (h0 : Heap)  :
    MetFree l (⟨"java/lang/Record", "<init>", "()V"⟩ : MethodName) (head1 [Jvm.Cond.code (⟨"java/lang/Record", "<init>", "()V"⟩ : MethodName) jdk_30_method_1_code 1 none] ({ frames := 1, cells := 0, slots := 0, locals := 12 } : Room)) (fun aa U => aa = #[(.ref a)] ∧ Z.Warmed39 U.vm ∧ U.heap = h0) (fun _ _ _ _ _ => True) (fun _ U o U' => ∃ v L, o = .returned v ∧ (PQ h0 none) v U'.heap L ∧ FrameEnd U o U' L ({ frames := 1, cells := 0, slots := 0, locals := 12 } : Room).cells ({ frames := 1, cells := 0, slots := 0, locals := 12 } : Room).slots) := by
  refine goBody (y := (⟨"java/lang/Record", "<init>", "()V"⟩ : MethodName)) (Q := PQ h0 none) (plainFor_of_name (by first | (simp [plainName, overriddenIn]; done) | decide +kernel)) ?_
  intro p e s m below meth c T0 hx hZ hby hml hown hnm hret hlk X0 e0
  have hown : s.vm.findClass "java/lang/Record" = some m.cls := hown
  refine Go.cast (g' := mkF m 0 #[.val (.ref a)] []) (by first | (simp [entryFrame, mkF, argsToLocals, Value.category]; done) | rfl) ?_
  show Go p e below _ T0 (mkF m 0 #[.val (.ref a)] [])
  refine Go.of (fun _ k => XS.aloadN X0.here hx rfl (hb hby own_rd0) rfl rfl k) ?_
  show Go p e below _ T0 (mkF m 1 #[.val (.ref a)] [(.ref a)])
  refine Go.initObj X0 hx hZ hown (hw _ (List.mem_of_getElem? (i := 11) rfl)) (hw _ (List.mem_of_getElem? (i := 12) rfl)) (hw _ (List.mem_of_getElem? (i := 13) rfl)) e0 (by rw [hml]; rfl) (hb hby own_rd1) (by decide) (W := 0) (Nat.le_of_eq rfl) (by decide) fun T1 X1 e1 => ?_
  show Go p e below _ T1 (mkF m 4 #[.val (.ref a)] [])
  exact Go.retV X1 hx hlk hret (hb hby own_rd4) (by decide) (by decide) ⟨rfl, rfl, e1⟩
theorem own_id0 : decode prog_22_method_1_code 0 = .ok (.aload_n 0, 1) := by decide +kernel
theorem own_id1 : decode prog_22_method_1_code 1 = .ok (.invokespecial 1, 3) := by decide +kernel
theorem own_id4 : decode prog_22_method_1_code 4 = .ok (.aload_n 0, 1) := by decide +kernel
theorem own_id5 : decode prog_22_method_1_code 5 = .ok (.iload_n 1, 1) := by decide +kernel
theorem own_id6 : decode prog_22_method_1_code 6 = .ok (.putfield 7, 3) := by decide +kernel
theorem own_id9 : decode prog_22_method_1_code 9 = .ok (.aload_n 0, 1) := by decide +kernel
theorem own_id10 : decode prog_22_method_1_code 10 = .ok (.iload_n 2, 1) := by decide +kernel
theorem own_id11 : decode prog_22_method_1_code 11 = .ok (.putfield 13, 3) := by decide +kernel
theorem own_id14 : decode prog_22_method_1_code 14 = .ok (.aload_n 0, 1) := by decide +kernel
theorem own_id15 : decode prog_22_method_1_code 15 = .ok (.iload_n 3, 1) := by decide +kernel
theorem own_id16 : decode prog_22_method_1_code 16 = .ok (.putfield 16, 3) := by decide +kernel
theorem own_id19 : decode prog_22_method_1_code 19 = .ok (.return_, 1) := by decide +kernel
abbrev own_rmI_Q (Z : State) (a : Addr) (y mo da : Int32) (n0 : Nat) (h0 : Heap) : Option Value → Heap → List Loc → Prop := fun v h L => v = none ∧ Fr n0 L ∧ Keep h0 h [a] ∧ Exa Z h a "com/example/vestry/vestry/engine/Elapsed" ∧ Fld Z h a "com/example/vestry/vestry/engine/Elapsed" "years" "I" (.int y) ∧ Fld Z h a "com/example/vestry/vestry/engine/Elapsed" "months" "I" (.int mo)
set_option maxRecDepth 65536 in
set_option maxHeartbeats 40000000 in
theorem own_rmI (l : Launch) (Z : State) (a0 : Array Value) (hw : ∀ d ∈ tables_1, d.before a0 Z = true) (a : Addr) (y mo da : Int32) (n0 : Nat) (h0 : Heap) (Z0 : n0 ≤ h0.size) (ga : n0 ≤ a) (EA : Exa Z h0 a "com/example/vestry/vestry/engine/Elapsed") (F_years : Fld Z h0 a "com/example/vestry/vestry/engine/Elapsed" "years" "I" (.int 0)) (F_months : Fld Z h0 a "com/example/vestry/vestry/engine/Elapsed" "months" "I" (.int 0)) (F_days : Fld Z h0 a "com/example/vestry/vestry/engine/Elapsed" "days" "I" (.int 0)) :
    MetFree l (⟨"com/example/vestry/vestry/engine/Elapsed", "<init>", "(III)V"⟩ : MethodName) (head1 [Jvm.Cond.code (⟨"com/example/vestry/vestry/engine/Elapsed", "<init>", "(III)V"⟩ : MethodName) prog_22_method_1_code 4 none] ({ frames := 2, cells := 0, slots := 0, locals := 24 } : Room)) (fun aa U => aa = #[(.ref a), (.int y), (.int mo), (.int da)] ∧ Z.Warmed39 U.vm ∧ U.heap = h0) (fun _ _ _ _ _ => True) (fun _ U o U' => ∃ v L, o = .returned v ∧ ((own_rmI_Q Z a y mo da n0 h0)) v U'.heap L ∧ FrameEnd U o U' L ({ frames := 2, cells := 0, slots := 0, locals := 24 } : Room).cells ({ frames := 2, cells := 0, slots := 0, locals := 24 } : Room).slots) := by
  refine goBody (y := (⟨"com/example/vestry/vestry/engine/Elapsed", "<init>", "(III)V"⟩ : MethodName)) (Q := (own_rmI_Q Z a y mo da n0 h0)) (plainFor_of_name (by first | (simp [plainName, overriddenIn]; done) | decide +kernel)) ?_
  intro p e s m below meth c T0 hx hZ hby hml hown hnm hret hlk X0 e0
  have hown : s.vm.findClass "com/example/vestry/vestry/engine/Elapsed" = some m.cls := hown
  refine Go.cast (g' := mkF m 0 #[.val (.ref a), .val (.int y), .val (.int mo), .val (.int da)] []) (by first | (simp [entryFrame, mkF, argsToLocals, Value.category]; done) | rfl) ?_
  show Go p e below _ T0 (mkF m 0 #[.val (.ref a), .val (.int y), .val (.int mo), .val (.int da)] [])
  refine Go.of (fun _ k => XS.aloadN X0.here hx rfl (hb hby own_id0) rfl rfl k) ?_
  show Go p e below _ T0 (mkF m 1 #[.val (.ref a), .val (.int y), .val (.int mo), .val (.int da)] [(.ref a)])
  refine Go.callIP (W := 0) (y := (⟨"java/lang/Record", "<init>", "()V"⟩ : MethodName)) (a := a) (argsL := []) (rest := []) X0 hx hZ rfl hown (hw _ (List.mem_of_getElem? (i := 6) rfl)) (hw _ (List.mem_of_getElem? (i := 7) rfl)) (hw _ (List.mem_of_getElem? (i := 9) rfl)) (hw _ (List.mem_of_getElem? (i := 10) rfl)) (by decide) (own_rmR l Z a0 hw a h0) e0 (by rw [hml]; rfl) (lenOf own_dsc0 rfl) (hb hby own_id1) rfl (Nat.le_of_eq rfl) (by decide) (by decide) (by decide) (by decide) fun T1 X1 e1 => ?_
  show Go p e below _ T1 (mkF m 4 #[.val (.ref a), .val (.int y), .val (.int mo), .val (.int da)] [])
  refine Go.of (fun _ k => XS.aloadN X1.here hx rfl (hb hby own_id4) rfl rfl k) ?_
  show Go p e below _ T1 (mkF m 5 #[.val (.ref a), .val (.int y), .val (.int mo), .val (.int da)] [(.ref a)])
  refine Go.of (fun _ k => XS.iloadN X1.here hx rfl (hb hby own_id5) rfl k) ?_
  show Go p e below _ T1 (mkF m 6 #[.val (.ref a), .val (.int y), .val (.int mo), .val (.int da)] [(.int y), (.ref a)])
  refine Go.putf X1 hx hZ hown (hw _ (List.mem_of_getElem? (i := 14) rfl)) Via.refl e1 F_years EA (Or.inr ⟨(hw _ (List.mem_of_getElem? (i := 15) rfl)), rfl, hnm⟩) (hw _ (List.mem_of_getElem? (i := 1) rfl)) (ty := .int) (by decide) rfl rfl (hb hby own_id6) fun T2 h2 X2 e2 W2 F2 A2 => ?_
  have sz2 : n0 ≤ h2.size := Nat.le_trans Z0 (Keep.of_wr W2).1
  have kp2 : Keep h0 h2 [a] := (Keep.refl h0 [a]).wr W2 (Or.inl (List.mem_of_getElem? (i := 0) rfl))
  have N2 := Fr.snoc X2 (Fr.nil n0) ga
  show Go p e below _ T2 (mkF m 9 #[.val (.ref a), .val (.int y), .val (.int mo), .val (.int da)] [])
  refine Go.of (fun _ k => XS.aloadN X2.here hx rfl (hb hby own_id9) rfl rfl k) ?_
  show Go p e below _ T2 (mkF m 10 #[.val (.ref a), .val (.int y), .val (.int mo), .val (.int da)] [(.ref a)])
  refine Go.of (fun _ k => XS.iloadN X2.here hx rfl (hb hby own_id10) rfl k) ?_
  show Go p e below _ T2 (mkF m 11 #[.val (.ref a), .val (.int y), .val (.int mo), .val (.int da)] [(.int mo), (.ref a)])
  refine Go.putf X2 hx hZ hown (hw _ (List.mem_of_getElem? (i := 16) rfl)) Via.refl e2 (F_months.other W2 (Or.inr (slot_ne (Or.inr (hw _ (List.mem_of_getElem? (i := 17) rfl))) (Or.inr (hw _ (List.mem_of_getElem? (i := 15) rfl))) (by decide) (t := .int) (t' := .int) (by decide) (by decide)))) A2 (Or.inr ⟨(hw _ (List.mem_of_getElem? (i := 17) rfl)), rfl, hnm⟩) (hw _ (List.mem_of_getElem? (i := 1) rfl)) (ty := .int) (by decide) rfl rfl (hb hby own_id11) fun T3 h3 X3 e3 W3 F3 A3 => ?_
  have sz3 : n0 ≤ h3.size := Nat.le_trans sz2 (Keep.of_wr W3).1
  have kp3 : Keep h0 h3 [a] := kp2.wr W3 (Or.inl (List.mem_of_getElem? (i := 0) rfl))
  have N3 := Fr.snoc X3 N2 ga
  show Go p e below _ T3 (mkF m 14 #[.val (.ref a), .val (.int y), .val (.int mo), .val (.int da)] [])
  refine Go.of (fun _ k => XS.aloadN X3.here hx rfl (hb hby own_id14) rfl rfl k) ?_
  show Go p e below _ T3 (mkF m 15 #[.val (.ref a), .val (.int y), .val (.int mo), .val (.int da)] [(.ref a)])
  refine Go.of (fun _ k => XS.iloadN X3.here hx rfl (hb hby own_id15) rfl k) ?_
  show Go p e below _ T3 (mkF m 16 #[.val (.ref a), .val (.int y), .val (.int mo), .val (.int da)] [(.int da), (.ref a)])
  refine Go.putf X3 hx hZ hown (hw _ (List.mem_of_getElem? (i := 18) rfl)) Via.refl e3 ((F_days.other W2 (Or.inr (slot_ne (Or.inr (hw _ (List.mem_of_getElem? (i := 19) rfl))) (Or.inr (hw _ (List.mem_of_getElem? (i := 15) rfl))) (by decide) (t := .int) (t' := .int) (by decide) (by decide)))).other W3 (Or.inr (slot_ne (Or.inr (hw _ (List.mem_of_getElem? (i := 19) rfl))) (Or.inr (hw _ (List.mem_of_getElem? (i := 17) rfl))) (by decide) (t := .int) (t' := .int) (by decide) (by decide)))) A3 (Or.inr ⟨(hw _ (List.mem_of_getElem? (i := 19) rfl)), rfl, hnm⟩) (hw _ (List.mem_of_getElem? (i := 1) rfl)) (ty := .int) (by decide) rfl rfl (hb hby own_id16) fun T4 h4 X4 e4 W4 F4 A4 => ?_
  have sz4 : n0 ≤ h4.size := Nat.le_trans sz3 (Keep.of_wr W4).1
  have kp4 : Keep h0 h4 [a] := kp3.wr W4 (Or.inl (List.mem_of_getElem? (i := 0) rfl))
  have N4 := Fr.snoc X4 N3 ga
  show Go p e below _ T4 (mkF m 19 #[.val (.ref a), .val (.int y), .val (.int mo), .val (.int da)] [])
  exact Go.retV X4 hx hlk hret (hb hby own_id19) (by decide) (by decide) (by rw [e4]; exact ⟨rfl, N4, kp4, A4, ((F2.other W3 (Or.inr (slot_ne (Or.inr (hw _ (List.mem_of_getElem? (i := 15) rfl))) (Or.inr (hw _ (List.mem_of_getElem? (i := 17) rfl))) (by decide) (t := .int) (t' := .int) (by decide) (by decide)))).other W4 (Or.inr (slot_ne (Or.inr (hw _ (List.mem_of_getElem? (i := 15) rfl))) (Or.inr (hw _ (List.mem_of_getElem? (i := 19) rfl))) (by decide) (t := .int) (t' := .int) (by decide) (by decide)))), (F3.other W4 (Or.inr (slot_ne (Or.inr (hw _ (List.mem_of_getElem? (i := 17) rfl))) (Or.inr (hw _ (List.mem_of_getElem? (i := 19) rfl))) (by decide) (t := .int) (t' := .int) (by decide) (by decide))))⟩)
theorem own_td0 : decode prog_22_method_4_code 0 = .ok (.ldc2_w 19, 3) := by decide +kernel
theorem own_td3 : decode prog_22_method_4_code 3 = .ok (.aload_n 0, 1) := by decide +kernel
theorem own_td4 : decode prog_22_method_4_code 4 = .ok (.getfield 7, 3) := by decide +kernel
theorem own_td7 : decode prog_22_method_4_code 7 = .ok (.i2l, 1) := by decide +kernel
theorem own_td8 : decode prog_22_method_4_code 8 = .ok (.lmul, 1) := by decide +kernel
theorem own_td9 : decode prog_22_method_4_code 9 = .ok (.aload_n 0, 1) := by decide +kernel
theorem own_td10 : decode prog_22_method_4_code 10 = .ok (.getfield 13, 3) := by decide +kernel
theorem own_td13 : decode prog_22_method_4_code 13 = .ok (.i2l, 1) := by decide +kernel
theorem own_td14 : decode prog_22_method_4_code 14 = .ok (.ladd, 1) := by decide +kernel
theorem own_td15 : decode prog_22_method_4_code 15 = .ok (.lreturn, 1) := by decide +kernel
set_option maxRecDepth 65536 in
set_option maxHeartbeats 40000000 in
theorem own_rmT (l : Launch) (Z : State) (a0 : Array Value) (hw : ∀ d ∈ tables_1, d.before a0 Z = true) (a : Addr) (y mo : Int32) (h0 : Heap) (F_years : Fld Z h0 a "com/example/vestry/vestry/engine/Elapsed" "years" "I" (.int y)) (F_months : Fld Z h0 a "com/example/vestry/vestry/engine/Elapsed" "months" "I" (.int mo)) :
    MetFree l (⟨"com/example/vestry/vestry/engine/Elapsed", "totalMonths", "()J"⟩ : MethodName) (head1 [Jvm.Cond.code (⟨"com/example/vestry/vestry/engine/Elapsed", "totalMonths", "()J"⟩ : MethodName) prog_22_method_4_code 1 (some .long)] ({ frames := 0, cells := 0, slots := 0, locals := 0 } : Room)) (fun aa U => aa = #[(.ref a)] ∧ Z.Warmed39 U.vm ∧ U.heap = h0) (fun _ _ _ _ _ => True) (fun _ U o U' => ∃ v L, o = .returned v ∧ (PQ h0 (some (.long (own_tm y mo)))) v U'.heap L ∧ FrameEnd U o U' L ({ frames := 0, cells := 0, slots := 0, locals := 0 } : Room).cells ({ frames := 0, cells := 0, slots := 0, locals := 0 } : Room).slots) := by
  refine goBody (y := (⟨"com/example/vestry/vestry/engine/Elapsed", "totalMonths", "()J"⟩ : MethodName)) (Q := PQ h0 (some (.long (own_tm y mo)))) (plainFor_of_name (by first | (simp [plainName, overriddenIn]; done) | decide +kernel)) ?_
  intro p e s m below meth c T0 hx hZ hby hml hown hnm hret hlk X0 e0
  have hown : s.vm.findClass "com/example/vestry/vestry/engine/Elapsed" = some m.cls := hown
  refine Go.cast (g' := mkF m 0 #[.val (.ref a)] []) (by first | (simp [entryFrame, mkF, argsToLocals, Value.category]; done) | rfl) ?_
  show Go p e below _ T0 (mkF m 0 #[.val (.ref a)] [])
  refine Go.of (X0.ldc2Long hx hown (mvT hZ (hw _ (List.mem_of_getElem? (i := 25) rfl))) (g := (mkF m 0 #[.val (.ref a)] [])) rfl (hb hby own_td0)) ?_
  show Go p e below _ T0 (mkF m 3 #[.val (.ref a)] [(.long (12 : Int64))])
  refine Go.of (fun _ k => XS.aloadN X0.here hx rfl (hb hby own_td3) rfl rfl k) ?_
  show Go p e below _ T0 (mkF m 4 #[.val (.ref a)] [(.ref a), (.long (12 : Int64))])
  refine Go.getf X0 hx hZ hown (hw _ (List.mem_of_getElem? (i := 14) rfl)) Via.refl e0 F_years (hb hby own_td4) fun T1 X1 e1 => ?_
  show Go p e below _ T1 (mkF m 7 #[.val (.ref a)] [(.int y), (.long (12 : Int64))])
  refine Go.of (fun _ k => XS.i2l X1.here hx rfl (hb hby own_td7) rfl k) ?_
  show Go p e below _ T1 (mkF m 8 #[.val (.ref a)] [(.long (y.toInt64)), (.long (12 : Int64))])
  refine Go.of (fun _ k => XS.lmul X1.here hx rfl (hb hby own_td8) rfl k) ?_
  show Go p e below _ T1 (mkF m 9 #[.val (.ref a)] [(.long ((12 : Int64) * (y.toInt64)))])
  refine Go.of (fun _ k => XS.aloadN X1.here hx rfl (hb hby own_td9) rfl rfl k) ?_
  show Go p e below _ T1 (mkF m 10 #[.val (.ref a)] [(.ref a), (.long ((12 : Int64) * (y.toInt64)))])
  refine Go.getf X1 hx hZ hown (hw _ (List.mem_of_getElem? (i := 16) rfl)) Via.refl e1 F_months (hb hby own_td10) fun T2 X2 e2 => ?_
  show Go p e below _ T2 (mkF m 13 #[.val (.ref a)] [(.int mo), (.long ((12 : Int64) * (y.toInt64)))])
  refine Go.of (fun _ k => XS.i2l X2.here hx rfl (hb hby own_td13) rfl k) ?_
  show Go p e below _ T2 (mkF m 14 #[.val (.ref a)] [(.long (mo.toInt64)), (.long ((12 : Int64) * (y.toInt64)))])
  refine Go.of (fun _ k => XS.ladd X2.here hx rfl (hb hby own_td14) rfl k) ?_
  show Go p e below _ T2 (mkF m 15 #[.val (.ref a)] [(.long (((12 : Int64) * (y.toInt64)) + (mo.toInt64)))])
  exact Go.retJ X2 hx hlk hret (hb hby own_td15) (by decide) (by decide) ⟨rfl, rfl, e2⟩
set_option maxRecDepth 65536 in
set_option maxHeartbeats 40000000 in
theorem rm0 (l : Launch) (Z : State) (a0 : Array Value) (hw : ∀ d ∈ tables_1, d.before a0 Z = true) (ws : List Jvm.Cond) (y mo da ee : Int32) (h0 : Heap)  :
    MetFree l x (head1 (Jvm.Cond.code x code maxLocals ret :: ws) room_1) (fun aa U => aa = #[(.int y), (.int mo), (.int da), (.int ee)] ∧ Z.Warmed39 U.vm ∧ U.heap = h0) (fun _ _ _ _ _ => True) (fun _ U o U' => ∃ v L, o = .returned v ∧ (fun v _ L => v = some (.int 1) ∧ Fr h0.size L) v U'.heap L ∧ FrameEnd U o U' L room_1.cells room_1.slots) := by
  refine goBody (y := x) (Q := fun v _ L => v = some (.int 1) ∧ Fr h0.size L) (plainFor_of_name (by first | (simp [plainName, overriddenIn]; done) | decide +kernel)) ?_
  intro p e s m below meth c T0 hx hZ hby hml hown hnm hret hlk X0 e0
  have hown : s.vm.findClass "com/example/vestry/vestry/engine/ElapsedTotalMonthsPinLaw" = some m.cls := hown
  have hml : c.maxLocals = 25 := hml
  refine Go.cast (g' := mkF m 0 #[.val (.int y), .val (.int mo), .val (.int da), .val (.int ee), .unset, .unset, .unset, .unset, .unset, .unset, .unset, .unset, .unset, .unset, .unset, .unset, .unset, .unset, .unset, .unset, .unset, .unset, .unset, .unset, .unset] []) (by first | (simp [entryFrame, mkF, argsToLocals, Value.category, maxLocals]; done) | rfl) ?_
  show Go p e below _ T0 (mkF m 0 #[.val (.int y), .val (.int mo), .val (.int da), .val (.int ee), .unset, .unset, .unset, .unset, .unset, .unset, .unset, .unset, .unset, .unset, .unset, .unset, .unset, .unset, .unset, .unset, .unset, .unset, .unset, .unset, .unset] [])
  refine Go.of (fun _ k => XS.iloadN X0.here hx rfl (hb hby at_0) rfl k) ?_
  show Go p e below _ T0 (mkF m 1 #[.val (.int y), .val (.int mo), .val (.int da), .val (.int ee), .unset, .unset, .unset, .unset, .unset, .unset, .unset, .unset, .unset, .unset, .unset, .unset, .unset, .unset, .unset, .unset, .unset, .unset, .unset, .unset, .unset] [(.int y)])
  refine Go.of (fun _ k => XS.iconst X0.here hx rfl (hb hby at_1) k) ?_
  show Go p e below _ T0 (mkF m 2 #[.val (.int y), .val (.int mo), .val (.int da), .val (.int ee), .unset, .unset, .unset, .unset, .unset, .unset, .unset, .unset, .unset, .unset, .unset, .unset, .unset, .unset, .unset, .unset, .unset, .unset, .unset, .unset, .unset] [(.int (1 : Int32)), (.int y)])
  refine Go.of (fun _ k => XS.ishr X0.here hx rfl (hb hby at_2) rfl k) ?_
  show Go p e below _ T0 (mkF m 3 #[.val (.int y), .val (.int mo), .val (.int da), .val (.int ee), .unset, .unset, .unset, .unset, .unset, .unset, .unset, .unset, .unset, .unset, .unset, .unset, .unset, .unset, .unset, .unset, .unset, .unset, .unset, .unset, .unset] [(.int (y >>> ((1 : Int32) &&& 31)))])
  refine Go.of (fun _ k => XS.istore X0.here hx rfl (hb hby at_3) rfl (l' := #[.val (.int y), .val (.int mo), .val (.int da), .val (.int ee), .val (.int (y >>> ((1 : Int32) &&& 31))), .unset, .unset, .unset, .unset, .unset, .unset, .unset, .unset, .unset, .unset, .unset, .unset, .unset, .unset, .unset, .unset, .unset, .unset, .unset, .unset]) rfl k) ?_
  show Go p e below _ T0 (mkF m 5 #[.val (.int y), .val (.int mo), .val (.int da), .val (.int ee), .val (.int (y >>> ((1 : Int32) &&& 31))), .unset, .unset, .unset, .unset, .unset, .unset, .unset, .unset, .unset, .unset, .unset, .unset, .unset, .unset, .unset, .unset, .unset, .unset, .unset, .unset] [])
  refine Go.of (fun _ k => XS.iloadN X0.here hx rfl (hb hby at_5) rfl k) ?_
  show Go p e below _ T0 (mkF m 6 #[.val (.int y), .val (.int mo), .val (.int da), .val (.int ee), .val (.int (y >>> ((1 : Int32) &&& 31))), .unset, .unset, .unset, .unset, .unset, .unset, .unset, .unset, .unset, .unset, .unset, .unset, .unset, .unset, .unset, .unset, .unset, .unset, .unset, .unset] [(.int y)])
  refine Go.of (fun _ k => XS.iconst X0.here hx rfl (hb hby at_6) k) ?_
  show Go p e below _ T0 (mkF m 7 #[.val (.int y), .val (.int mo), .val (.int da), .val (.int ee), .val (.int (y >>> ((1 : Int32) &&& 31))), .unset, .unset, .unset, .unset, .unset, .unset, .unset, .unset, .unset, .unset, .unset, .unset, .unset, .unset, .unset, .unset, .unset, .unset, .unset, .unset] [(.int (1 : Int32)), (.int y)])
  refine Go.of (fun _ k => XS.iand X0.here hx rfl (hb hby at_7) rfl k) ?_
  show Go p e below _ T0 (mkF m 8 #[.val (.int y), .val (.int mo), .val (.int da), .val (.int ee), .val (.int (y >>> ((1 : Int32) &&& 31))), .unset, .unset, .unset, .unset, .unset, .unset, .unset, .unset, .unset, .unset, .unset, .unset, .unset, .unset, .unset, .unset, .unset, .unset, .unset, .unset] [(.int (y &&& (1 : Int32)))])
  refine Go.of (fun _ k => XS.istore X0.here hx rfl (hb hby at_8) rfl (l' := #[.val (.int y), .val (.int mo), .val (.int da), .val (.int ee), .val (.int (y >>> ((1 : Int32) &&& 31))), .val (.int (y &&& (1 : Int32))), .unset, .unset, .unset, .unset, .unset, .unset, .unset, .unset, .unset, .unset, .unset, .unset, .unset, .unset, .unset, .unset, .unset, .unset, .unset]) rfl k) ?_
  show Go p e below _ T0 (mkF m 10 #[.val (.int y), .val (.int mo), .val (.int da), .val (.int ee), .val (.int (y >>> ((1 : Int32) &&& 31))), .val (.int (y &&& (1 : Int32))), .unset, .unset, .unset, .unset, .unset, .unset, .unset, .unset, .unset, .unset, .unset, .unset, .unset, .unset, .unset, .unset, .unset, .unset, .unset] [])
  refine Go.new X0 hx hZ hown (hw _ (List.mem_of_getElem? (i := 0) rfl)) (hw _ (List.mem_of_getElem? (i := 1) rfl)) (hw _ (List.mem_of_getElem? (i := 2) rfl)) e0 (hb hby at_10) (by decide) (by decide) fun T1 h1 b1 g1 X1 e1 E1 A1 D1 => ?_
  have ge_b1 : h0.size ≤ b1 := g1 ▸ (Nat.le_refl _)
  have sz1 : h0.size ≤ h1.size := Nat.le_trans (Nat.le_refl _) E1.1
  have F1_years : Fld Z h1 b1 "com/example/vestry/vestry/engine/Elapsed" "years" "I" (.int (0 : Int32)) := D1 (Or.inr (hw _ (List.mem_of_getElem? (i := 15) rfl))) (ty := .int) (by decide)
  have F1_months : Fld Z h1 b1 "com/example/vestry/vestry/engine/Elapsed" "months" "I" (.int (0 : Int32)) := D1 (Or.inr (hw _ (List.mem_of_getElem? (i := 17) rfl))) (ty := .int) (by decide)
  have F1_days : Fld Z h1 b1 "com/example/vestry/vestry/engine/Elapsed" "days" "I" (.int (0 : Int32)) := D1 (Or.inr (hw _ (List.mem_of_getElem? (i := 19) rfl))) (ty := .int) (by decide)
  show Go p e below _ T1 (mkF m 13 #[.val (.int y), .val (.int mo), .val (.int da), .val (.int ee), .val (.int (y >>> ((1 : Int32) &&& 31))), .val (.int (y &&& (1 : Int32))), .unset, .unset, .unset, .unset, .unset, .unset, .unset, .unset, .unset, .unset, .unset, .unset, .unset, .unset, .unset, .unset, .unset, .unset, .unset] [(.ref b1)])
  refine Go.of (fun _ k => XS.dup X1.here hx rfl (hb hby at_13) rfl rfl k) ?_
  show Go p e below _ T1 (mkF m 14 #[.val (.int y), .val (.int mo), .val (.int da), .val (.int ee), .val (.int (y >>> ((1 : Int32) &&& 31))), .val (.int (y &&& (1 : Int32))), .unset, .unset, .unset, .unset, .unset, .unset, .unset, .unset, .unset, .unset, .unset, .unset, .unset, .unset, .unset, .unset, .unset, .unset, .unset] [(.ref b1), (.ref b1)])
  refine Go.of (fun _ k => XS.iloadN X1.here hx rfl (hb hby at_14) rfl k) ?_
  show Go p e below _ T1 (mkF m 15 #[.val (.int y), .val (.int mo), .val (.int da), .val (.int ee), .val (.int (y >>> ((1 : Int32) &&& 31))), .val (.int (y &&& (1 : Int32))), .unset, .unset, .unset, .unset, .unset, .unset, .unset, .unset, .unset, .unset, .unset, .unset, .unset, .unset, .unset, .unset, .unset, .unset, .unset] [(.int y), (.ref b1), (.ref b1)])
  refine Go.of (fun _ k => XS.iloadN X1.here hx rfl (hb hby at_15) rfl k) ?_
  show Go p e below _ T1 (mkF m 16 #[.val (.int y), .val (.int mo), .val (.int da), .val (.int ee), .val (.int (y >>> ((1 : Int32) &&& 31))), .val (.int (y &&& (1 : Int32))), .unset, .unset, .unset, .unset, .unset, .unset, .unset, .unset, .unset, .unset, .unset, .unset, .unset, .unset, .unset, .unset, .unset, .unset, .unset] [(.int mo), (.int y), (.ref b1), (.ref b1)])
  refine Go.of (fun _ k => XS.iloadN X1.here hx rfl (hb hby at_16) rfl k) ?_
  show Go p e below _ T1 (mkF m 17 #[.val (.int y), .val (.int mo), .val (.int da), .val (.int ee), .val (.int (y >>> ((1 : Int32) &&& 31))), .val (.int (y &&& (1 : Int32))), .unset, .unset, .unset, .unset, .unset, .unset, .unset, .unset, .unset, .unset, .unset, .unset, .unset, .unset, .unset, .unset, .unset, .unset, .unset] [(.int da), (.int mo), (.int y), (.ref b1), (.ref b1)])
  refine Go.callI (W := 1) (y := (⟨"com/example/vestry/vestry/engine/Elapsed", "<init>", "(III)V"⟩ : MethodName)) (a := b1) (argsL := [(.int y), (.int mo), (.int da)]) (rest := [(.ref b1)]) X1 hx hZ rfl hown (hw _ (List.mem_of_getElem? (i := 3) rfl)) (hw _ (List.mem_of_getElem? (i := 4) rfl)) (hw _ (List.mem_of_getElem? (i := 2) rfl)) (hw _ (List.mem_of_getElem? (i := 5) rfl)) (by decide) (own_rmI l Z a0 hw b1 y mo da h0.size h1 sz1 ge_b1 A1 F1_years F1_months F1_days) e1 (by rw [hml]; rfl) (lenOf own_dsc1 rfl) (hb hby at_17) rfl (Nat.le_of_eq rfl) (by decide) (by decide) (by decide) (by decide) fun _ T2 L2 X2 q2 => ?_
  obtain ⟨rfl, N2q, K2, A2, FY2, FM2⟩ := q2
  have N2 := Fr.app (Fr.nil _) N2q
  have sz2 : h0.size ≤ T2.heap.size := Nat.le_trans sz1 K2.1
  show Go p e below _ T2 (mkF m 20 #[.val (.int y), .val (.int mo), .val (.int da), .val (.int ee), .val (.int (y >>> ((1 : Int32) &&& 31))), .val (.int (y &&& (1 : Int32))), .unset, .unset, .unset, .unset, .unset, .unset, .unset, .unset, .unset, .unset, .unset, .unset, .unset, .unset, .unset, .unset, .unset, .unset, .unset] [(.ref b1)])
  refine Go.of (fun _ k => XS.astore X2.here hx rfl (hb hby at_20) rfl rfl (l' := #[.val (.int y), .val (.int mo), .val (.int da), .val (.int ee), .val (.int (y >>> ((1 : Int32) &&& 31))), .val (.int (y &&& (1 : Int32))), .val (.ref b1), .unset, .unset, .unset, .unset, .unset, .unset, .unset, .unset, .unset, .unset, .unset, .unset, .unset, .unset, .unset, .unset, .unset, .unset]) rfl k) ?_
  show Go p e below _ T2 (mkF m 22 #[.val (.int y), .val (.int mo), .val (.int da), .val (.int ee), .val (.int (y >>> ((1 : Int32) &&& 31))), .val (.int (y &&& (1 : Int32))), .val (.ref b1), .unset, .unset, .unset, .unset, .unset, .unset, .unset, .unset, .unset, .unset, .unset, .unset, .unset, .unset, .unset, .unset, .unset, .unset] [])
  refine Go.new X2 hx hZ hown (hw _ (List.mem_of_getElem? (i := 0) rfl)) (hw _ (List.mem_of_getElem? (i := 1) rfl)) (hw _ (List.mem_of_getElem? (i := 2) rfl)) rfl (hb hby at_22) (by decide) (by decide) fun T3 h3 b3 g3 X3 e3 E3 A3 D3 => ?_
  have lt_b1_b3 : b1 < b3 := Nat.lt_of_lt_of_le A2.lt (Nat.le_of_eq g3.symm)
  have ge_b3 : h0.size ≤ b3 := g3 ▸ sz2
  have sz3 : h0.size ≤ h3.size := Nat.le_trans sz2 E3.1
  have F3_years : Fld Z h3 b3 "com/example/vestry/vestry/engine/Elapsed" "years" "I" (.int (0 : Int32)) := D3 (Or.inr (hw _ (List.mem_of_getElem? (i := 15) rfl))) (ty := .int) (by decide)
  have F3_months : Fld Z h3 b3 "com/example/vestry/vestry/engine/Elapsed" "months" "I" (.int (0 : Int32)) := D3 (Or.inr (hw _ (List.mem_of_getElem? (i := 17) rfl))) (ty := .int) (by decide)
  have F3_days : Fld Z h3 b3 "com/example/vestry/vestry/engine/Elapsed" "days" "I" (.int (0 : Int32)) := D3 (Or.inr (hw _ (List.mem_of_getElem? (i := 19) rfl))) (ty := .int) (by decide)
  show Go p e below _ T3 (mkF m 25 #[.val (.int y), .val (.int mo), .val (.int da), .val (.int ee), .val (.int (y >>> ((1 : Int32) &&& 31))), .val (.int (y &&& (1 : Int32))), .val (.ref b1), .unset, .unset, .unset, .unset, .unset, .unset, .unset, .unset, .unset, .unset, .unset, .unset, .unset, .unset, .unset, .unset, .unset, .unset] [(.ref b3)])
  refine Go.of (fun _ k => XS.dup X3.here hx rfl (hb hby at_25) rfl rfl k) ?_
  show Go p e below _ T3 (mkF m 26 #[.val (.int y), .val (.int mo), .val (.int da), .val (.int ee), .val (.int (y >>> ((1 : Int32) &&& 31))), .val (.int (y &&& (1 : Int32))), .val (.ref b1), .unset, .unset, .unset, .unset, .unset, .unset, .unset, .unset, .unset, .unset, .unset, .unset, .unset, .unset, .unset, .unset, .unset, .unset] [(.ref b3), (.ref b3)])
  refine Go.of (fun _ k => XS.iloadN X3.here hx rfl (hb hby at_26) rfl k) ?_
  show Go p e below _ T3 (mkF m 27 #[.val (.int y), .val (.int mo), .val (.int da), .val (.int ee), .val (.int (y >>> ((1 : Int32) &&& 31))), .val (.int (y &&& (1 : Int32))), .val (.ref b1), .unset, .unset, .unset, .unset, .unset, .unset, .unset, .unset, .unset, .unset, .unset, .unset, .unset, .unset, .unset, .unset, .unset, .unset] [(.int y), (.ref b3), (.ref b3)])
  refine Go.of (fun _ k => XS.iconst X3.here hx rfl (hb hby at_27) k) ?_
  show Go p e below _ T3 (mkF m 28 #[.val (.int y), .val (.int mo), .val (.int da), .val (.int ee), .val (.int (y >>> ((1 : Int32) &&& 31))), .val (.int (y &&& (1 : Int32))), .val (.ref b1), .unset, .unset, .unset, .unset, .unset, .unset, .unset, .unset, .unset, .unset, .unset, .unset, .unset, .unset, .unset, .unset, .unset, .unset] [(.int (0 : Int32)), (.int y), (.ref b3), (.ref b3)])
  refine Go.of (fun _ k => XS.iloadN X3.here hx rfl (hb hby at_28) rfl k) ?_
  show Go p e below _ T3 (mkF m 29 #[.val (.int y), .val (.int mo), .val (.int da), .val (.int ee), .val (.int (y >>> ((1 : Int32) &&& 31))), .val (.int (y &&& (1 : Int32))), .val (.ref b1), .unset, .unset, .unset, .unset, .unset, .unset, .unset, .unset, .unset, .unset, .unset, .unset, .unset, .unset, .unset, .unset, .unset, .unset] [(.int ee), (.int (0 : Int32)), (.int y), (.ref b3), (.ref b3)])
  refine Go.callI (W := 1) (y := (⟨"com/example/vestry/vestry/engine/Elapsed", "<init>", "(III)V"⟩ : MethodName)) (a := b3) (argsL := [(.int y), (.int (0 : Int32)), (.int ee)]) (rest := [(.ref b3)]) X3 hx hZ rfl hown (hw _ (List.mem_of_getElem? (i := 3) rfl)) (hw _ (List.mem_of_getElem? (i := 4) rfl)) (hw _ (List.mem_of_getElem? (i := 2) rfl)) (hw _ (List.mem_of_getElem? (i := 5) rfl)) (by decide) (own_rmI l Z a0 hw b3 y (0 : Int32) ee h0.size h3 sz3 ge_b3 A3 F3_years F3_months F3_days) e3 (by rw [hml]; rfl) (lenOf own_dsc1 rfl) (hb hby at_29) rfl (Nat.le_of_eq rfl) (by decide) (by decide) (by decide) (by decide) fun _ T4 L4 X4 q4 => ?_
  obtain ⟨rfl, N4q, K4, A4, FY4, FM4⟩ := q4
  have N4 := Fr.app N2 N4q
  have sz4 : h0.size ≤ T4.heap.size := Nat.le_trans sz3 K4.1
  show Go p e below _ T4 (mkF m 32 #[.val (.int y), .val (.int mo), .val (.int da), .val (.int ee), .val (.int (y >>> ((1 : Int32) &&& 31))), .val (.int (y &&& (1 : Int32))), .val (.ref b1), .unset, .unset, .unset, .unset, .unset, .unset, .unset, .unset, .unset, .unset, .unset, .unset, .unset, .unset, .unset, .unset, .unset, .unset] [(.ref b3)])
  refine Go.of (fun _ k => XS.astore X4.here hx rfl (hb hby at_32) rfl rfl (l' := #[.val (.int y), .val (.int mo), .val (.int da), .val (.int ee), .val (.int (y >>> ((1 : Int32) &&& 31))), .val (.int (y &&& (1 : Int32))), .val (.ref b1), .val (.ref b3), .unset, .unset, .unset, .unset, .unset, .unset, .unset, .unset, .unset, .unset, .unset, .unset, .unset, .unset, .unset, .unset, .unset]) rfl k) ?_
  show Go p e below _ T4 (mkF m 34 #[.val (.int y), .val (.int mo), .val (.int da), .val (.int ee), .val (.int (y >>> ((1 : Int32) &&& 31))), .val (.int (y &&& (1 : Int32))), .val (.ref b1), .val (.ref b3), .unset, .unset, .unset, .unset, .unset, .unset, .unset, .unset, .unset, .unset, .unset, .unset, .unset, .unset, .unset, .unset, .unset] [])
  refine Go.new X4 hx hZ hown (hw _ (List.mem_of_getElem? (i := 0) rfl)) (hw _ (List.mem_of_getElem? (i := 1) rfl)) (hw _ (List.mem_of_getElem? (i := 2) rfl)) rfl (hb hby at_34) (by decide) (by decide) fun T5 h5 b5 g5 X5 e5 E5 A5 D5 => ?_
  have lt_b1_b5 : b1 < b5 := Nat.lt_of_lt_of_le ((A2.ext E3).keep K4).lt (Nat.le_of_eq g5.symm)
  have lt_b3_b5 : b3 < b5 := Nat.lt_of_lt_of_le A4.lt (Nat.le_of_eq g5.symm)
  have ge_b5 : h0.size ≤ b5 := g5 ▸ sz4
  have sz5 : h0.size ≤ h5.size := Nat.le_trans sz4 E5.1
  have F5_years : Fld Z h5 b5 "com/example/vestry/vestry/engine/Elapsed" "years" "I" (.int (0 : Int32)) := D5 (Or.inr (hw _ (List.mem_of_getElem? (i := 15) rfl))) (ty := .int) (by decide)
  have F5_months : Fld Z h5 b5 "com/example/vestry/vestry/engine/Elapsed" "months" "I" (.int (0 : Int32)) := D5 (Or.inr (hw _ (List.mem_of_getElem? (i := 17) rfl))) (ty := .int) (by decide)
  have F5_days : Fld Z h5 b5 "com/example/vestry/vestry/engine/Elapsed" "days" "I" (.int (0 : Int32)) := D5 (Or.inr (hw _ (List.mem_of_getElem? (i := 19) rfl))) (ty := .int) (by decide)
  show Go p e below _ T5 (mkF m 37 #[.val (.int y), .val (.int mo), .val (.int da), .val (.int ee), .val (.int (y >>> ((1 : Int32) &&& 31))), .val (.int (y &&& (1 : Int32))), .val (.ref b1), .val (.ref b3), .unset, .unset, .unset, .unset, .unset, .unset, .unset, .unset, .unset, .unset, .unset, .unset, .unset, .unset, .unset, .unset, .unset] [(.ref b5)])
  refine Go.of (fun _ k => XS.dup X5.here hx rfl (hb hby at_37) rfl rfl k) ?_
  show Go p e below _ T5 (mkF m 38 #[.val (.int y), .val (.int mo), .val (.int da), .val (.int ee), .val (.int (y >>> ((1 : Int32) &&& 31))), .val (.int (y &&& (1 : Int32))), .val (.ref b1), .val (.ref b3), .unset, .unset, .unset, .unset, .unset, .unset, .unset, .unset, .unset, .unset, .unset, .unset, .unset, .unset, .unset, .unset, .unset] [(.ref b5), (.ref b5)])
  refine Go.of (fun _ k => XS.iconst X5.here hx rfl (hb hby at_38) k) ?_
  show Go p e below _ T5 (mkF m 39 #[.val (.int y), .val (.int mo), .val (.int da), .val (.int ee), .val (.int (y >>> ((1 : Int32) &&& 31))), .val (.int (y &&& (1 : Int32))), .val (.ref b1), .val (.ref b3), .unset, .unset, .unset, .unset, .unset, .unset, .unset, .unset, .unset, .unset, .unset, .unset, .unset, .unset, .unset, .unset, .unset] [(.int (0 : Int32)), (.ref b5), (.ref b5)])
  refine Go.of (fun _ k => XS.iloadN X5.here hx rfl (hb hby at_39) rfl k) ?_
  show Go p e below _ T5 (mkF m 40 #[.val (.int y), .val (.int mo), .val (.int da), .val (.int ee), .val (.int (y >>> ((1 : Int32) &&& 31))), .val (.int (y &&& (1 : Int32))), .val (.ref b1), .val (.ref b3), .unset, .unset, .unset, .unset, .unset, .unset, .unset, .unset, .unset, .unset, .unset, .unset, .unset, .unset, .unset, .unset, .unset] [(.int mo), (.int (0 : Int32)), (.ref b5), (.ref b5)])
  refine Go.of (fun _ k => XS.iloadN X5.here hx rfl (hb hby at_40) rfl k) ?_
  show Go p e below _ T5 (mkF m 41 #[.val (.int y), .val (.int mo), .val (.int da), .val (.int ee), .val (.int (y >>> ((1 : Int32) &&& 31))), .val (.int (y &&& (1 : Int32))), .val (.ref b1), .val (.ref b3), .unset, .unset, .unset, .unset, .unset, .unset, .unset, .unset, .unset, .unset, .unset, .unset, .unset, .unset, .unset, .unset, .unset] [(.int da), (.int mo), (.int (0 : Int32)), (.ref b5), (.ref b5)])
  refine Go.callI (W := 1) (y := (⟨"com/example/vestry/vestry/engine/Elapsed", "<init>", "(III)V"⟩ : MethodName)) (a := b5) (argsL := [(.int (0 : Int32)), (.int mo), (.int da)]) (rest := [(.ref b5)]) X5 hx hZ rfl hown (hw _ (List.mem_of_getElem? (i := 3) rfl)) (hw _ (List.mem_of_getElem? (i := 4) rfl)) (hw _ (List.mem_of_getElem? (i := 2) rfl)) (hw _ (List.mem_of_getElem? (i := 5) rfl)) (by decide) (own_rmI l Z a0 hw b5 (0 : Int32) mo da h0.size h5 sz5 ge_b5 A5 F5_years F5_months F5_days) e5 (by rw [hml]; rfl) (lenOf own_dsc1 rfl) (hb hby at_41) rfl (Nat.le_of_eq rfl) (by decide) (by decide) (by decide) (by decide) fun _ T6 L6 X6 q6 => ?_
  obtain ⟨rfl, N6q, K6, A6, FY6, FM6⟩ := q6
  have N6 := Fr.app N4 N6q
  have sz6 : h0.size ≤ T6.heap.size := Nat.le_trans sz5 K6.1
  show Go p e below _ T6 (mkF m 44 #[.val (.int y), .val (.int mo), .val (.int da), .val (.int ee), .val (.int (y >>> ((1 : Int32) &&& 31))), .val (.int (y &&& (1 : Int32))), .val (.ref b1), .val (.ref b3), .unset, .unset, .unset, .unset, .unset, .unset, .unset, .unset, .unset, .unset, .unset, .unset, .unset, .unset, .unset, .unset, .unset] [(.ref b5)])
  refine Go.of (fun _ k => XS.astore X6.here hx rfl (hb hby at_44) rfl rfl (l' := #[.val (.int y), .val (.int mo), .val (.int da), .val (.int ee), .val (.int (y >>> ((1 : Int32) &&& 31))), .val (.int (y &&& (1 : Int32))), .val (.ref b1), .val (.ref b3), .val (.ref b5), .unset, .unset, .unset, .unset, .unset, .unset, .unset, .unset, .unset, .unset, .unset, .unset, .unset, .unset, .unset, .unset]) rfl k) ?_
  show Go p e below _ T6 (mkF m 46 #[.val (.int y), .val (.int mo), .val (.int da), .val (.int ee), .val (.int (y >>> ((1 : Int32) &&& 31))), .val (.int (y &&& (1 : Int32))), .val (.ref b1), .val (.ref b3), .val (.ref b5), .unset, .unset, .unset, .unset, .unset, .unset, .unset, .unset, .unset, .unset, .unset, .unset, .unset, .unset, .unset, .unset] [])
  refine Go.new X6 hx hZ hown (hw _ (List.mem_of_getElem? (i := 0) rfl)) (hw _ (List.mem_of_getElem? (i := 1) rfl)) (hw _ (List.mem_of_getElem? (i := 2) rfl)) rfl (hb hby at_46) (by decide) (by decide) fun T7 h7 b7 g7 X7 e7 E7 A7 D7 => ?_
  have lt_b1_b7 : b1 < b7 := Nat.lt_of_lt_of_le ((((A2.ext E3).keep K4).ext E5).keep K6).lt (Nat.le_of_eq g7.symm)
  have lt_b3_b7 : b3 < b7 := Nat.lt_of_lt_of_le ((A4.ext E5).keep K6).lt (Nat.le_of_eq g7.symm)
  have lt_b5_b7 : b5 < b7 := Nat.lt_of_lt_of_le A6.lt (Nat.le_of_eq g7.symm)
  have ge_b7 : h0.size ≤ b7 := g7 ▸ sz6
  have sz7 : h0.size ≤ h7.size := Nat.le_trans sz6 E7.1
  have F7_years : Fld Z h7 b7 "com/example/vestry/vestry/engine/Elapsed" "years" "I" (.int (0 : Int32)) := D7 (Or.inr (hw _ (List.mem_of_getElem? (i := 15) rfl))) (ty := .int) (by decide)
  have F7_months : Fld Z h7 b7 "com/example/vestry/vestry/engine/Elapsed" "months" "I" (.int (0 : Int32)) := D7 (Or.inr (hw _ (List.mem_of_getElem? (i := 17) rfl))) (ty := .int) (by decide)
  have F7_days : Fld Z h7 b7 "com/example/vestry/vestry/engine/Elapsed" "days" "I" (.int (0 : Int32)) := D7 (Or.inr (hw _ (List.mem_of_getElem? (i := 19) rfl))) (ty := .int) (by decide)
  show Go p e below _ T7 (mkF m 49 #[.val (.int y), .val (.int mo), .val (.int da), .val (.int ee), .val (.int (y >>> ((1 : Int32) &&& 31))), .val (.int (y &&& (1 : Int32))), .val (.ref b1), .val (.ref b3), .val (.ref b5), .unset, .unset, .unset, .unset, .unset, .unset, .unset, .unset, .unset, .unset, .unset, .unset, .unset, .unset, .unset, .unset] [(.ref b7)])
  refine Go.of (fun _ k => XS.dup X7.here hx rfl (hb hby at_49) rfl rfl k) ?_
  show Go p e below _ T7 (mkF m 50 #[.val (.int y), .val (.int mo), .val (.int da), .val (.int ee), .val (.int (y >>> ((1 : Int32) &&& 31))), .val (.int (y &&& (1 : Int32))), .val (.ref b1), .val (.ref b3), .val (.ref b5), .unset, .unset, .unset, .unset, .unset, .unset, .unset, .unset, .unset, .unset, .unset, .unset, .unset, .unset, .unset, .unset] [(.ref b7), (.ref b7)])
  refine Go.of (fun _ k => XS.iload X7.here hx rfl (hb hby at_50) rfl k) ?_
  show Go p e below _ T7 (mkF m 52 #[.val (.int y), .val (.int mo), .val (.int da), .val (.int ee), .val (.int (y >>> ((1 : Int32) &&& 31))), .val (.int (y &&& (1 : Int32))), .val (.ref b1), .val (.ref b3), .val (.ref b5), .unset, .unset, .unset, .unset, .unset, .unset, .unset, .unset, .unset, .unset, .unset, .unset, .unset, .unset, .unset, .unset] [(.int (y >>> ((1 : Int32) &&& 31))), (.ref b7), (.ref b7)])
  refine Go.of (fun _ k => XS.iconst X7.here hx rfl (hb hby at_52) k) ?_
  show Go p e below _ T7 (mkF m 53 #[.val (.int y), .val (.int mo), .val (.int da), .val (.int ee), .val (.int (y >>> ((1 : Int32) &&& 31))), .val (.int (y &&& (1 : Int32))), .val (.ref b1), .val (.ref b3), .val (.ref b5), .unset, .unset, .unset, .unset, .unset, .unset, .unset, .unset, .unset, .unset, .unset, .unset, .unset, .unset, .unset, .unset] [(.int (0 : Int32)), (.int (y >>> ((1 : Int32) &&& 31))), (.ref b7), (.ref b7)])
  refine Go.of (fun _ k => XS.iconst X7.here hx rfl (hb hby at_53) k) ?_
  show Go p e below _ T7 (mkF m 54 #[.val (.int y), .val (.int mo), .val (.int da), .val (.int ee), .val (.int (y >>> ((1 : Int32) &&& 31))), .val (.int (y &&& (1 : Int32))), .val (.ref b1), .val (.ref b3), .val (.ref b5), .unset, .unset, .unset, .unset, .unset, .unset, .unset, .unset, .unset, .unset, .unset, .unset, .unset, .unset, .unset, .unset] [(.int (0 : Int32)), (.int (0 : Int32)), (.int (y >>> ((1 : Int32) &&& 31))), (.ref b7), (.ref b7)])
  refine Go.callI (W := 1) (y := (⟨"com/example/vestry/vestry/engine/Elapsed", "<init>", "(III)V"⟩ : MethodName)) (a := b7) (argsL := [(.int (y >>> ((1 : Int32) &&& 31))), (.int (0 : Int32)), (.int (0 : Int32))]) (rest := [(.ref b7)]) X7 hx hZ rfl hown (hw _ (List.mem_of_getElem? (i := 3) rfl)) (hw _ (List.mem_of_getElem? (i := 4) rfl)) (hw _ (List.mem_of_getElem? (i := 2) rfl)) (hw _ (List.mem_of_getElem? (i := 5) rfl)) (by decide) (own_rmI l Z a0 hw b7 (y >>> ((1 : Int32) &&& 31)) (0 : Int32) (0 : Int32) h0.size h7 sz7 ge_b7 A7 F7_years F7_months F7_days) e7 (by rw [hml]; rfl) (lenOf own_dsc1 rfl) (hb hby at_54) rfl (Nat.le_of_eq rfl) (by decide) (by decide) (by decide) (by decide) fun _ T8 L8 X8 q8 => ?_
  obtain ⟨rfl, N8q, K8, A8, FY8, FM8⟩ := q8
  have N8 := Fr.app N6 N8q
  have sz8 : h0.size ≤ T8.heap.size := Nat.le_trans sz7 K8.1
  show Go p e below _ T8 (mkF m 57 #[.val (.int y), .val (.int mo), .val (.int da), .val (.int ee), .val (.int (y >>> ((1 : Int32) &&& 31))), .val (.int (y &&& (1 : Int32))), .val (.ref b1), .val (.ref b3), .val (.ref b5), .unset, .unset, .unset, .unset, .unset, .unset, .unset, .unset, .unset, .unset, .unset, .unset, .unset, .unset, .unset, .unset] [(.ref b7)])
  refine Go.of (fun _ k => XS.astore X8.here hx rfl (hb hby at_57) rfl rfl (l' := #[.val (.int y), .val (.int mo), .val (.int da), .val (.int ee), .val (.int (y >>> ((1 : Int32) &&& 31))), .val (.int (y &&& (1 : Int32))), .val (.ref b1), .val (.ref b3), .val (.ref b5), .val (.ref b7), .unset, .unset, .unset, .unset, .unset, .unset, .unset, .unset, .unset, .unset, .unset, .unset, .unset, .unset, .unset]) rfl k) ?_
  show Go p e below _ T8 (mkF m 59 #[.val (.int y), .val (.int mo), .val (.int da), .val (.int ee), .val (.int (y >>> ((1 : Int32) &&& 31))), .val (.int (y &&& (1 : Int32))), .val (.ref b1), .val (.ref b3), .val (.ref b5), .val (.ref b7), .unset, .unset, .unset, .unset, .unset, .unset, .unset, .unset, .unset, .unset, .unset, .unset, .unset, .unset, .unset] [])
  refine Go.new X8 hx hZ hown (hw _ (List.mem_of_getElem? (i := 0) rfl)) (hw _ (List.mem_of_getElem? (i := 1) rfl)) (hw _ (List.mem_of_getElem? (i := 2) rfl)) rfl (hb hby at_59) (by decide) (by decide) fun T9 h9 b9 g9 X9 e9 E9 A9 D9 => ?_
  have lt_b1_b9 : b1 < b9 := Nat.lt_of_lt_of_le ((((((A2.ext E3).keep K4).ext E5).keep K6).ext E7).keep K8).lt (Nat.le_of_eq g9.symm)
  have lt_b3_b9 : b3 < b9 := Nat.lt_of_lt_of_le ((((A4.ext E5).keep K6).ext E7).keep K8).lt (Nat.le_of_eq g9.symm)
  have lt_b5_b9 : b5 < b9 := Nat.lt_of_lt_of_le ((A6.ext E7).keep K8).lt (Nat.le_of_eq g9.symm)
  have lt_b7_b9 : b7 < b9 := Nat.lt_of_lt_of_le A8.lt (Nat.le_of_eq g9.symm)
  have ge_b9 : h0.size ≤ b9 := g9 ▸ sz8
  have sz9 : h0.size ≤ h9.size := Nat.le_trans sz8 E9.1
  have F9_years : Fld Z h9 b9 "com/example/vestry/vestry/engine/Elapsed" "years" "I" (.int (0 : Int32)) := D9 (Or.inr (hw _ (List.mem_of_getElem? (i := 15) rfl))) (ty := .int) (by decide)
  have F9_months : Fld Z h9 b9 "com/example/vestry/vestry/engine/Elapsed" "months" "I" (.int (0 : Int32)) := D9 (Or.inr (hw _ (List.mem_of_getElem? (i := 17) rfl))) (ty := .int) (by decide)
  have F9_days : Fld Z h9 b9 "com/example/vestry/vestry/engine/Elapsed" "days" "I" (.int (0 : Int32)) := D9 (Or.inr (hw _ (List.mem_of_getElem? (i := 19) rfl))) (ty := .int) (by decide)
  show Go p e below _ T9 (mkF m 62 #[.val (.int y), .val (.int mo), .val (.int da), .val (.int ee), .val (.int (y >>> ((1 : Int32) &&& 31))), .val (.int (y &&& (1 : Int32))), .val (.ref b1), .val (.ref b3), .val (.ref b5), .val (.ref b7), .unset, .unset, .unset, .unset, .unset, .unset, .unset, .unset, .unset, .unset, .unset, .unset, .unset, .unset, .unset] [(.ref b9)])
  refine Go.of (fun _ k => XS.dup X9.here hx rfl (hb hby at_62) rfl rfl k) ?_
  show Go p e below _ T9 (mkF m 63 #[.val (.int y), .val (.int mo), .val (.int da), .val (.int ee), .val (.int (y >>> ((1 : Int32) &&& 31))), .val (.int (y &&& (1 : Int32))), .val (.ref b1), .val (.ref b3), .val (.ref b5), .val (.ref b7), .unset, .unset, .unset, .unset, .unset, .unset, .unset, .unset, .unset, .unset, .unset, .unset, .unset, .unset, .unset] [(.ref b9), (.ref b9)])
  refine Go.of (fun _ k => XS.iconst X9.here hx rfl (hb hby at_63) k) ?_
  show Go p e below _ T9 (mkF m 64 #[.val (.int y), .val (.int mo), .val (.int da), .val (.int ee), .val (.int (y >>> ((1 : Int32) &&& 31))), .val (.int (y &&& (1 : Int32))), .val (.ref b1), .val (.ref b3), .val (.ref b5), .val (.ref b7), .unset, .unset, .unset, .unset, .unset, .unset, .unset, .unset, .unset, .unset, .unset, .unset, .unset, .unset, .unset] [(.int (1 : Int32)), (.ref b9), (.ref b9)])
  refine Go.of (fun _ k => XS.iconst X9.here hx rfl (hb hby at_64) k) ?_
  show Go p e below _ T9 (mkF m 65 #[.val (.int y), .val (.int mo), .val (.int da), .val (.int ee), .val (.int (y >>> ((1 : Int32) &&& 31))), .val (.int (y &&& (1 : Int32))), .val (.ref b1), .val (.ref b3), .val (.ref b5), .val (.ref b7), .unset, .unset, .unset, .unset, .unset, .unset, .unset, .unset, .unset, .unset, .unset, .unset, .unset, .unset, .unset] [(.int (0 : Int32)), (.int (1 : Int32)), (.ref b9), (.ref b9)])
  refine Go.of (fun _ k => XS.iconst X9.here hx rfl (hb hby at_65) k) ?_
  show Go p e below _ T9 (mkF m 66 #[.val (.int y), .val (.int mo), .val (.int da), .val (.int ee), .val (.int (y >>> ((1 : Int32) &&& 31))), .val (.int (y &&& (1 : Int32))), .val (.ref b1), .val (.ref b3), .val (.ref b5), .val (.ref b7), .unset, .unset, .unset, .unset, .unset, .unset, .unset, .unset, .unset, .unset, .unset, .unset, .unset, .unset, .unset] [(.int (0 : Int32)), (.int (0 : Int32)), (.int (1 : Int32)), (.ref b9), (.ref b9)])
  refine Go.callI (W := 1) (y := (⟨"com/example/vestry/vestry/engine/Elapsed", "<init>", "(III)V"⟩ : MethodName)) (a := b9) (argsL := [(.int (1 : Int32)), (.int (0 : Int32)), (.int (0 : Int32))]) (rest := [(.ref b9)]) X9 hx hZ rfl hown (hw _ (List.mem_of_getElem? (i := 3) rfl)) (hw _ (List.mem_of_getElem? (i := 4) rfl)) (hw _ (List.mem_of_getElem? (i := 2) rfl)) (hw _ (List.mem_of_getElem? (i := 5) rfl)) (by decide) (own_rmI l Z a0 hw b9 (1 : Int32) (0 : Int32) (0 : Int32) h0.size h9 sz9 ge_b9 A9 F9_years F9_months F9_days) e9 (by rw [hml]; rfl) (lenOf own_dsc1 rfl) (hb hby at_66) rfl (Nat.le_of_eq rfl) (by decide) (by decide) (by decide) (by decide) fun _ T10 L10 X10 q10 => ?_
  obtain ⟨rfl, N10q, K10, A10, FY10, FM10⟩ := q10
  have N10 := Fr.app N8 N10q
  have sz10 : h0.size ≤ T10.heap.size := Nat.le_trans sz9 K10.1
  show Go p e below _ T10 (mkF m 69 #[.val (.int y), .val (.int mo), .val (.int da), .val (.int ee), .val (.int (y >>> ((1 : Int32) &&& 31))), .val (.int (y &&& (1 : Int32))), .val (.ref b1), .val (.ref b3), .val (.ref b5), .val (.ref b7), .unset, .unset, .unset, .unset, .unset, .unset, .unset, .unset, .unset, .unset, .unset, .unset, .unset, .unset, .unset] [(.ref b9)])
  refine Go.of (fun _ k => XS.astore X10.here hx rfl (hb hby at_69) rfl rfl (l' := #[.val (.int y), .val (.int mo), .val (.int da), .val (.int ee), .val (.int (y >>> ((1 : Int32) &&& 31))), .val (.int (y &&& (1 : Int32))), .val (.ref b1), .val (.ref b3), .val (.ref b5), .val (.ref b7), .val (.ref b9), .unset, .unset, .unset, .unset, .unset, .unset, .unset, .unset, .unset, .unset, .unset, .unset, .unset, .unset]) rfl k) ?_
  show Go p e below _ T10 (mkF m 71 #[.val (.int y), .val (.int mo), .val (.int da), .val (.int ee), .val (.int (y >>> ((1 : Int32) &&& 31))), .val (.int (y &&& (1 : Int32))), .val (.ref b1), .val (.ref b3), .val (.ref b5), .val (.ref b7), .val (.ref b9), .unset, .unset, .unset, .unset, .unset, .unset, .unset, .unset, .unset, .unset, .unset, .unset, .unset, .unset] [])
  refine Go.of (fun _ k => XS.aload X10.here hx rfl (hb hby at_71) rfl rfl k) ?_
  show Go p e below _ T10 (mkF m 73 #[.val (.int y), .val (.int mo), .val (.int da), .val (.int ee), .val (.int (y >>> ((1 : Int32) &&& 31))), .val (.int (y &&& (1 : Int32))), .val (.ref b1), .val (.ref b3), .val (.ref b5), .val (.ref b7), .val (.ref b9), .unset, .unset, .unset, .unset, .unset, .unset, .unset, .unset, .unset, .unset, .unset, .unset, .unset, .unset] [(.ref b1)])
  refine Go.callVP (W := 0) (y := (⟨"com/example/vestry/vestry/engine/Elapsed", "totalMonths", "()J"⟩ : MethodName)) (z := (⟨"com/example/vestry/vestry/engine/Elapsed", "totalMonths", "()J"⟩ : MethodName)) (a := b1) (argsL := []) (rest := []) (r := some (.long (own_tm y mo))) X10 hx hZ hown (hw _ (List.mem_of_getElem? (i := 20) rfl)) (hw _ (List.mem_of_getElem? (i := 21) rfl)) (notFace_of_selects (args := #[]) (mvT hZ (hw _ (List.mem_of_getElem? (i := 23) rfl)))) (hw _ (List.mem_of_getElem? (i := 23) rfl)) (hw _ (List.mem_of_getElem? (i := 22) rfl)) (hw _ (List.mem_of_getElem? (i := 2) rfl)) (hw _ (List.mem_of_getElem? (i := 24) rfl)) (by decide) (own_rmT l Z a0 hw b1 y mo T10.heap ((((((((FY2.ext E3).keep K4 (ninS (Nat.ne_of_lt lt_b1_b3) nin0)).ext E5).keep K6 (ninS (Nat.ne_of_lt lt_b1_b5) nin0)).ext E7).keep K8 (ninS (Nat.ne_of_lt lt_b1_b7) nin0)).ext E9).keep K10 (ninS (Nat.ne_of_lt lt_b1_b9) nin0)) ((((((((FM2.ext E3).keep K4 (ninS (Nat.ne_of_lt lt_b1_b3) nin0)).ext E5).keep K6 (ninS (Nat.ne_of_lt lt_b1_b5) nin0)).ext E7).keep K8 (ninS (Nat.ne_of_lt lt_b1_b7) nin0)).ext E9).keep K10 (ninS (Nat.ne_of_lt lt_b1_b9) nin0))) rfl ((((((((A2.ext E3).keep K4).ext E5).keep K6).ext E7).keep K8).ext E9).keep K10) (by rw [hml]; rfl) (lenOf own_dsc2 rfl) (hb hby at_73) rfl (Nat.le_of_eq rfl) (by decide) (by decide) (by decide) (by decide) fun T11 X11 e11 => ?_
  show Go p e below _ T11 (mkF m 76 #[.val (.int y), .val (.int mo), .val (.int da), .val (.int ee), .val (.int (y >>> ((1 : Int32) &&& 31))), .val (.int (y &&& (1 : Int32))), .val (.ref b1), .val (.ref b3), .val (.ref b5), .val (.ref b7), .val (.ref b9), .unset, .unset, .unset, .unset, .unset, .unset, .unset, .unset, .unset, .unset, .unset, .unset, .unset, .unset] [(.long (own_tm y mo))])
  refine Go.of (fun _ k => XS.lstore X11.here hx rfl (hb hby at_76) rfl (l' := #[.val (.int y), .val (.int mo), .val (.int da), .val (.int ee), .val (.int (y >>> ((1 : Int32) &&& 31))), .val (.int (y &&& (1 : Int32))), .val (.ref b1), .val (.ref b3), .val (.ref b5), .val (.ref b7), .val (.ref b9), .val (.long (own_tm y mo)), .second, .unset, .unset, .unset, .unset, .unset, .unset, .unset, .unset, .unset, .unset, .unset, .unset]) rfl k) ?_
  show Go p e below _ T11 (mkF m 78 #[.val (.int y), .val (.int mo), .val (.int da), .val (.int ee), .val (.int (y >>> ((1 : Int32) &&& 31))), .val (.int (y &&& (1 : Int32))), .val (.ref b1), .val (.ref b3), .val (.ref b5), .val (.ref b7), .val (.ref b9), .val (.long (own_tm y mo)), .second, .unset, .unset, .unset, .unset, .unset, .unset, .unset, .unset, .unset, .unset, .unset, .unset] [])
  refine Go.of (fun _ k => XS.aload X11.here hx rfl (hb hby at_78) rfl rfl k) ?_
  show Go p e below _ T11 (mkF m 80 #[.val (.int y), .val (.int mo), .val (.int da), .val (.int ee), .val (.int (y >>> ((1 : Int32) &&& 31))), .val (.int (y &&& (1 : Int32))), .val (.ref b1), .val (.ref b3), .val (.ref b5), .val (.ref b7), .val (.ref b9), .val (.long (own_tm y mo)), .second, .unset, .unset, .unset, .unset, .unset, .unset, .unset, .unset, .unset, .unset, .unset, .unset] [(.ref b3)])
  refine Go.callVP (W := 0) (y := (⟨"com/example/vestry/vestry/engine/Elapsed", "totalMonths", "()J"⟩ : MethodName)) (z := (⟨"com/example/vestry/vestry/engine/Elapsed", "totalMonths", "()J"⟩ : MethodName)) (a := b3) (argsL := []) (rest := []) (r := some (.long (own_tm y (0 : Int32)))) X11 hx hZ hown (hw _ (List.mem_of_getElem? (i := 20) rfl)) (hw _ (List.mem_of_getElem? (i := 21) rfl)) (notFace_of_selects (args := #[]) (mvT hZ (hw _ (List.mem_of_getElem? (i := 23) rfl)))) (hw _ (List.mem_of_getElem? (i := 23) rfl)) (hw _ (List.mem_of_getElem? (i := 22) rfl)) (hw _ (List.mem_of_getElem? (i := 2) rfl)) (hw _ (List.mem_of_getElem? (i := 24) rfl)) (by decide) (own_rmT l Z a0 hw b3 y (0 : Int32) T10.heap ((((((FY4.ext E5).keep K6 (ninS (Nat.ne_of_lt lt_b3_b5) nin0)).ext E7).keep K8 (ninS (Nat.ne_of_lt lt_b3_b7) nin0)).ext E9).keep K10 (ninS (Nat.ne_of_lt lt_b3_b9) nin0)) ((((((FM4.ext E5).keep K6 (ninS (Nat.ne_of_lt lt_b3_b5) nin0)).ext E7).keep K8 (ninS (Nat.ne_of_lt lt_b3_b7) nin0)).ext E9).keep K10 (ninS (Nat.ne_of_lt lt_b3_b9) nin0))) e11 ((((((A4.ext E5).keep K6).ext E7).keep K8).ext E9).keep K10) (by rw [hml]; rfl) (lenOf own_dsc2 rfl) (hb hby at_80) rfl (Nat.le_of_eq rfl) (by decide) (by decide) (by decide) (by decide) fun T12 X12 e12 => ?_
  show Go p e below _ T12 (mkF m 83 #[.val (.int y), .val (.int mo), .val (.int da), .val (.int ee), .val (.int (y >>> ((1 : Int32) &&& 31))), .val (.int (y &&& (1 : Int32))), .val (.ref b1), .val (.ref b3), .val (.ref b5), .val (.ref b7), .val (.ref b9), .val (.long (own_tm y mo)), .second, .unset, .unset, .unset, .unset, .unset, .unset, .unset, .unset, .unset, .unset, .unset, .unset] [(.long (own_tm y (0 : Int32)))])
  refine Go.of (fun _ k => XS.lstore X12.here hx rfl (hb hby at_83) rfl (l' := #[.val (.int y), .val (.int mo), .val (.int da), .val (.int ee), .val (.int (y >>> ((1 : Int32) &&& 31))), .val (.int (y &&& (1 : Int32))), .val (.ref b1), .val (.ref b3), .val (.ref b5), .val (.ref b7), .val (.ref b9), .val (.long (own_tm y mo)), .second, .val (.long (own_tm y (0 : Int32))), .second, .unset, .unset, .unset, .unset, .unset, .unset, .unset, .unset, .unset, .unset]) rfl k) ?_
  show Go p e below _ T12 (mkF m 85 #[.val (.int y), .val (.int mo), .val (.int da), .val (.int ee), .val (.int (y >>> ((1 : Int32) &&& 31))), .val (.int (y &&& (1 : Int32))), .val (.ref b1), .val (.ref b3), .val (.ref b5), .val (.ref b7), .val (.ref b9), .val (.long (own_tm y mo)), .second, .val (.long (own_tm y (0 : Int32))), .second, .unset, .unset, .unset, .unset, .unset, .unset, .unset, .unset, .unset, .unset] [])
  refine Go.of (fun _ k => XS.aload X12.here hx rfl (hb hby at_85) rfl rfl k) ?_
  show Go p e below _ T12 (mkF m 87 #[.val (.int y), .val (.int mo), .val (.int da), .val (.int ee), .val (.int (y >>> ((1 : Int32) &&& 31))), .val (.int (y &&& (1 : Int32))), .val (.ref b1), .val (.ref b3), .val (.ref b5), .val (.ref b7), .val (.ref b9), .val (.long (own_tm y mo)), .second, .val (.long (own_tm y (0 : Int32))), .second, .unset, .unset, .unset, .unset, .unset, .unset, .unset, .unset, .unset, .unset] [(.ref b5)])
  refine Go.callVP (W := 0) (y := (⟨"com/example/vestry/vestry/engine/Elapsed", "totalMonths", "()J"⟩ : MethodName)) (z := (⟨"com/example/vestry/vestry/engine/Elapsed", "totalMonths", "()J"⟩ : MethodName)) (a := b5) (argsL := []) (rest := []) (r := some (.long (own_tm (0 : Int32) mo))) X12 hx hZ hown (hw _ (List.mem_of_getElem? (i := 20) rfl)) (hw _ (List.mem_of_getElem? (i := 21) rfl)) (notFace_of_selects (args := #[]) (mvT hZ (hw _ (List.mem_of_getElem? (i := 23) rfl)))) (hw _ (List.mem_of_getElem? (i := 23) rfl)) (hw _ (List.mem_of_getElem? (i := 22) rfl)) (hw _ (List.mem_of_getElem? (i := 2) rfl)) (hw _ (List.mem_of_getElem? (i := 24) rfl)) (by decide) (own_rmT l Z a0 hw b5 (0 : Int32) mo T10.heap ((((FY6.ext E7).keep K8 (ninS (Nat.ne_of_lt lt_b5_b7) nin0)).ext E9).keep K10 (ninS (Nat.ne_of_lt lt_b5_b9) nin0)) ((((FM6.ext E7).keep K8 (ninS (Nat.ne_of_lt lt_b5_b7) nin0)).ext E9).keep K10 (ninS (Nat.ne_of_lt lt_b5_b9) nin0))) e12 ((((A6.ext E7).keep K8).ext E9).keep K10) (by rw [hml]; rfl) (lenOf own_dsc2 rfl) (hb hby at_87) rfl (Nat.le_of_eq rfl) (by decide) (by decide) (by decide) (by decide) fun T13 X13 e13 => ?_
  show Go p e below _ T13 (mkF m 90 #[.val (.int y), .val (.int mo), .val (.int da), .val (.int ee), .val (.int (y >>> ((1 : Int32) &&& 31))), .val (.int (y &&& (1 : Int32))), .val (.ref b1), .val (.ref b3), .val (.ref b5), .val (.ref b7), .val (.ref b9), .val (.long (own_tm y mo)), .second, .val (.long (own_tm y (0 : Int32))), .second, .unset, .unset, .unset, .unset, .unset, .unset, .unset, .unset, .unset, .unset] [(.long (own_tm (0 : Int32) mo))])
  refine Go.of (fun _ k => XS.lstore X13.here hx rfl (hb hby at_90) rfl (l' := #[.val (.int y), .val (.int mo), .val (.int da), .val (.int ee), .val (.int (y >>> ((1 : Int32) &&& 31))), .val (.int (y &&& (1 : Int32))), .val (.ref b1), .val (.ref b3), .val (.ref b5), .val (.ref b7), .val (.ref b9), .val (.long (own_tm y mo)), .second, .val (.long (own_tm y (0 : Int32))), .second, .val (.long (own_tm (0 : Int32) mo)), .second, .unset, .unset, .unset, .unset, .unset, .unset, .unset, .unset]) rfl k) ?_
  show Go p e below _ T13 (mkF m 92 #[.val (.int y), .val (.int mo), .val (.int da), .val (.int ee), .val (.int (y >>> ((1 : Int32) &&& 31))), .val (.int (y &&& (1 : Int32))), .val (.ref b1), .val (.ref b3), .val (.ref b5), .val (.ref b7), .val (.ref b9), .val (.long (own_tm y mo)), .second, .val (.long (own_tm y (0 : Int32))), .second, .val (.long (own_tm (0 : Int32) mo)), .second, .unset, .unset, .unset, .unset, .unset, .unset, .unset, .unset] [])
  refine Go.of (fun _ k => XS.aload X13.here hx rfl (hb hby at_92) rfl rfl k) ?_
  show Go p e below _ T13 (mkF m 94 #[.val (.int y), .val (.int mo), .val (.int da), .val (.int ee), .val (.int (y >>> ((1 : Int32) &&& 31))), .val (.int (y &&& (1 : Int32))), .val (.ref b1), .val (.ref b3), .val (.ref b5), .val (.ref b7), .val (.ref b9), .val (.long (own_tm y mo)), .second, .val (.long (own_tm y (0 : Int32))), .second, .val (.long (own_tm (0 : Int32) mo)), .second, .unset, .unset, .unset, .unset, .unset, .unset, .unset, .unset] [(.ref b7)])
  refine Go.callVP (W := 0) (y := (⟨"com/example/vestry/vestry/engine/Elapsed", "totalMonths", "()J"⟩ : MethodName)) (z := (⟨"com/example/vestry/vestry/engine/Elapsed", "totalMonths", "()J"⟩ : MethodName)) (a := b7) (argsL := []) (rest := []) (r := some (.long (own_tm (y >>> ((1 : Int32) &&& 31)) (0 : Int32)))) X13 hx hZ hown (hw _ (List.mem_of_getElem? (i := 20) rfl)) (hw _ (List.mem_of_getElem? (i := 21) rfl)) (notFace_of_selects (args := #[]) (mvT hZ (hw _ (List.mem_of_getElem? (i := 23) rfl)))) (hw _ (List.mem_of_getElem? (i := 23) rfl)) (hw _ (List.mem_of_getElem? (i := 22) rfl)) (hw _ (List.mem_of_getElem? (i := 2) rfl)) (hw _ (List.mem_of_getElem? (i := 24) rfl)) (by decide) (own_rmT l Z a0 hw b7 (y >>> ((1 : Int32) &&& 31)) (0 : Int32) T10.heap ((FY8.ext E9).keep K10 (ninS (Nat.ne_of_lt lt_b7_b9) nin0)) ((FM8.ext E9).keep K10 (ninS (Nat.ne_of_lt lt_b7_b9) nin0))) e13 ((A8.ext E9).keep K10) (by rw [hml]; rfl) (lenOf own_dsc2 rfl) (hb hby at_94) rfl (Nat.le_of_eq rfl) (by decide) (by decide) (by decide) (by decide) fun T14 X14 e14 => ?_
  show Go p e below _ T14 (mkF m 97 #[.val (.int y), .val (.int mo), .val (.int da), .val (.int ee), .val (.int (y >>> ((1 : Int32) &&& 31))), .val (.int (y &&& (1 : Int32))), .val (.ref b1), .val (.ref b3), .val (.ref b5), .val (.ref b7), .val (.ref b9), .val (.long (own_tm y mo)), .second, .val (.long (own_tm y (0 : Int32))), .second, .val (.long (own_tm (0 : Int32) mo)), .second, .unset, .unset, .unset, .unset, .unset, .unset, .unset, .unset] [(.long (own_tm (y >>> ((1 : Int32) &&& 31)) (0 : Int32)))])
  refine Go.of (fun _ k => XS.lstore X14.here hx rfl (hb hby at_97) rfl (l' := #[.val (.int y), .val (.int mo), .val (.int da), .val (.int ee), .val (.int (y >>> ((1 : Int32) &&& 31))), .val (.int (y &&& (1 : Int32))), .val (.ref b1), .val (.ref b3), .val (.ref b5), .val (.ref b7), .val (.ref b9), .val (.long (own_tm y mo)), .second, .val (.long (own_tm y (0 : Int32))), .second, .val (.long (own_tm (0 : Int32) mo)), .second, .val (.long (own_tm (y >>> ((1 : Int32) &&& 31)) (0 : Int32))), .second, .unset, .unset, .unset, .unset, .unset, .unset]) rfl k) ?_
  show Go p e below _ T14 (mkF m 99 #[.val (.int y), .val (.int mo), .val (.int da), .val (.int ee), .val (.int (y >>> ((1 : Int32) &&& 31))), .val (.int (y &&& (1 : Int32))), .val (.ref b1), .val (.ref b3), .val (.ref b5), .val (.ref b7), .val (.ref b9), .val (.long (own_tm y mo)), .second, .val (.long (own_tm y (0 : Int32))), .second, .val (.long (own_tm (0 : Int32) mo)), .second, .val (.long (own_tm (y >>> ((1 : Int32) &&& 31)) (0 : Int32))), .second, .unset, .unset, .unset, .unset, .unset, .unset] [])
  refine Go.of (fun _ k => XS.aload X14.here hx rfl (hb hby at_99) rfl rfl k) ?_
  show Go p e below _ T14 (mkF m 101 #[.val (.int y), .val (.int mo), .val (.int da), .val (.int ee), .val (.int (y >>> ((1 : Int32) &&& 31))), .val (.int (y &&& (1 : Int32))), .val (.ref b1), .val (.ref b3), .val (.ref b5), .val (.ref b7), .val (.ref b9), .val (.long (own_tm y mo)), .second, .val (.long (own_tm y (0 : Int32))), .second, .val (.long (own_tm (0 : Int32) mo)), .second, .val (.long (own_tm (y >>> ((1 : Int32) &&& 31)) (0 : Int32))), .second, .unset, .unset, .unset, .unset, .unset, .unset] [(.ref b9)])
  refine Go.callVP (W := 0) (y := (⟨"com/example/vestry/vestry/engine/Elapsed", "totalMonths", "()J"⟩ : MethodName)) (z := (⟨"com/example/vestry/vestry/engine/Elapsed", "totalMonths", "()J"⟩ : MethodName)) (a := b9) (argsL := []) (rest := []) (r := some (.long (own_tm (1 : Int32) (0 : Int32)))) X14 hx hZ hown (hw _ (List.mem_of_getElem? (i := 20) rfl)) (hw _ (List.mem_of_getElem? (i := 21) rfl)) (notFace_of_selects (args := #[]) (mvT hZ (hw _ (List.mem_of_getElem? (i := 23) rfl)))) (hw _ (List.mem_of_getElem? (i := 23) rfl)) (hw _ (List.mem_of_getElem? (i := 22) rfl)) (hw _ (List.mem_of_getElem? (i := 2) rfl)) (hw _ (List.mem_of_getElem? (i := 24) rfl)) (by decide) (own_rmT l Z a0 hw b9 (1 : Int32) (0 : Int32) T10.heap FY10 FM10) e14 A10 (by rw [hml]; rfl) (lenOf own_dsc2 rfl) (hb hby at_101) rfl (Nat.le_of_eq rfl) (by decide) (by decide) (by decide) (by decide) fun T15 X15 e15 => ?_
  show Go p e below _ T15 (mkF m 104 #[.val (.int y), .val (.int mo), .val (.int da), .val (.int ee), .val (.int (y >>> ((1 : Int32) &&& 31))), .val (.int (y &&& (1 : Int32))), .val (.ref b1), .val (.ref b3), .val (.ref b5), .val (.ref b7), .val (.ref b9), .val (.long (own_tm y mo)), .second, .val (.long (own_tm y (0 : Int32))), .second, .val (.long (own_tm (0 : Int32) mo)), .second, .val (.long (own_tm (y >>> ((1 : Int32) &&& 31)) (0 : Int32))), .second, .unset, .unset, .unset, .unset, .unset, .unset] [(.long (own_tm (1 : Int32) (0 : Int32)))])
  refine Go.of (fun _ k => XS.lstore X15.here hx rfl (hb hby at_104) rfl (l' := #[.val (.int y), .val (.int mo), .val (.int da), .val (.int ee), .val (.int (y >>> ((1 : Int32) &&& 31))), .val (.int (y &&& (1 : Int32))), .val (.ref b1), .val (.ref b3), .val (.ref b5), .val (.ref b7), .val (.ref b9), .val (.long (own_tm y mo)), .second, .val (.long (own_tm y (0 : Int32))), .second, .val (.long (own_tm (0 : Int32) mo)), .second, .val (.long (own_tm (y >>> ((1 : Int32) &&& 31)) (0 : Int32))), .second, .val (.long (own_tm (1 : Int32) (0 : Int32))), .second, .unset, .unset, .unset, .unset]) rfl k) ?_
  show Go p e below _ T15 (mkF m 106 #[.val (.int y), .val (.int mo), .val (.int da), .val (.int ee), .val (.int (y >>> ((1 : Int32) &&& 31))), .val (.int (y &&& (1 : Int32))), .val (.ref b1), .val (.ref b3), .val (.ref b5), .val (.ref b7), .val (.ref b9), .val (.long (own_tm y mo)), .second, .val (.long (own_tm y (0 : Int32))), .second, .val (.long (own_tm (0 : Int32) mo)), .second, .val (.long (own_tm (y >>> ((1 : Int32) &&& 31)) (0 : Int32))), .second, .val (.long (own_tm (1 : Int32) (0 : Int32))), .second, .unset, .unset, .unset, .unset] [])
  refine Go.of (fun _ k => XS.lload X15.here hx rfl (hb hby at_106) rfl k) ?_
  show Go p e below _ T15 (mkF m 108 #[.val (.int y), .val (.int mo), .val (.int da), .val (.int ee), .val (.int (y >>> ((1 : Int32) &&& 31))), .val (.int (y &&& (1 : Int32))), .val (.ref b1), .val (.ref b3), .val (.ref b5), .val (.ref b7), .val (.ref b9), .val (.long (own_tm y mo)), .second, .val (.long (own_tm y (0 : Int32))), .second, .val (.long (own_tm (0 : Int32) mo)), .second, .val (.long (own_tm (y >>> ((1 : Int32) &&& 31)) (0 : Int32))), .second, .val (.long (own_tm (1 : Int32) (0 : Int32))), .second, .unset, .unset, .unset, .unset] [(.long (own_tm y mo))])
  refine Go.of (fun _ k => XS.lload X15.here hx rfl (hb hby at_108) rfl k) ?_
  show Go p e below _ T15 (mkF m 110 #[.val (.int y), .val (.int mo), .val (.int da), .val (.int ee), .val (.int (y >>> ((1 : Int32) &&& 31))), .val (.int (y &&& (1 : Int32))), .val (.ref b1), .val (.ref b3), .val (.ref b5), .val (.ref b7), .val (.ref b9), .val (.long (own_tm y mo)), .second, .val (.long (own_tm y (0 : Int32))), .second, .val (.long (own_tm (0 : Int32) mo)), .second, .val (.long (own_tm (y >>> ((1 : Int32) &&& 31)) (0 : Int32))), .second, .val (.long (own_tm (1 : Int32) (0 : Int32))), .second, .unset, .unset, .unset, .unset] [(.long (own_tm y (0 : Int32))), (.long (own_tm y mo))])
  refine Go.of (fun _ k => XS.lload X15.here hx rfl (hb hby at_110) rfl k) ?_
  show Go p e below _ T15 (mkF m 112 #[.val (.int y), .val (.int mo), .val (.int da), .val (.int ee), .val (.int (y >>> ((1 : Int32) &&& 31))), .val (.int (y &&& (1 : Int32))), .val (.ref b1), .val (.ref b3), .val (.ref b5), .val (.ref b7), .val (.ref b9), .val (.long (own_tm y mo)), .second, .val (.long (own_tm y (0 : Int32))), .second, .val (.long (own_tm (0 : Int32) mo)), .second, .val (.long (own_tm (y >>> ((1 : Int32) &&& 31)) (0 : Int32))), .second, .val (.long (own_tm (1 : Int32) (0 : Int32))), .second, .unset, .unset, .unset, .unset] [(.long (own_tm (0 : Int32) mo)), (.long (own_tm y (0 : Int32))), (.long (own_tm y mo))])
  refine Go.of (fun _ k => XS.ladd X15.here hx rfl (hb hby at_112) rfl k) ?_
  show Go p e below _ T15 (mkF m 113 #[.val (.int y), .val (.int mo), .val (.int da), .val (.int ee), .val (.int (y >>> ((1 : Int32) &&& 31))), .val (.int (y &&& (1 : Int32))), .val (.ref b1), .val (.ref b3), .val (.ref b5), .val (.ref b7), .val (.ref b9), .val (.long (own_tm y mo)), .second, .val (.long (own_tm y (0 : Int32))), .second, .val (.long (own_tm (0 : Int32) mo)), .second, .val (.long (own_tm (y >>> ((1 : Int32) &&& 31)) (0 : Int32))), .second, .val (.long (own_tm (1 : Int32) (0 : Int32))), .second, .unset, .unset, .unset, .unset] [(.long ((own_tm y (0 : Int32)) + (own_tm (0 : Int32) mo))), (.long (own_tm y mo))])
  refine Go.of (fun _ k => XS.lcmp X15.here hx rfl (hb hby at_113) rfl k) ?_
  show Go p e below _ T15 (mkF m 114 #[.val (.int y), .val (.int mo), .val (.int da), .val (.int ee), .val (.int (y >>> ((1 : Int32) &&& 31))), .val (.int (y &&& (1 : Int32))), .val (.ref b1), .val (.ref b3), .val (.ref b5), .val (.ref b7), .val (.ref b9), .val (.long (own_tm y mo)), .second, .val (.long (own_tm y (0 : Int32))), .second, .val (.long (own_tm (0 : Int32) mo)), .second, .val (.long (own_tm (y >>> ((1 : Int32) &&& 31)) (0 : Int32))), .second, .val (.long (own_tm (1 : Int32) (0 : Int32))), .second, .unset, .unset, .unset, .unset] [(.int (XS.cmpL (own_tm y mo) ((own_tm y (0 : Int32)) + (own_tm (0 : Int32) mo))))])
  refine Go.of (fun _ k => XS.ifNo X15.here hx rfl (hb hby at_114) rfl ((if0 _ _).trans (teq (own_cmp0 (own_l1 _ _) : (XS.cmpL (own_tm y mo) ((own_tm y (0 : Int32)) + (own_tm (0 : Int32) mo))) = (0 : Int32))).2) k) ?_
  show Go p e below _ T15 (mkF m 117 #[.val (.int y), .val (.int mo), .val (.int da), .val (.int ee), .val (.int (y >>> ((1 : Int32) &&& 31))), .val (.int (y &&& (1 : Int32))), .val (.ref b1), .val (.ref b3), .val (.ref b5), .val (.ref b7), .val (.ref b9), .val (.long (own_tm y mo)), .second, .val (.long (own_tm y (0 : Int32))), .second, .val (.long (own_tm (0 : Int32) mo)), .second, .val (.long (own_tm (y >>> ((1 : Int32) &&& 31)) (0 : Int32))), .second, .val (.long (own_tm (1 : Int32) (0 : Int32))), .second, .unset, .unset, .unset, .unset] [])
  refine Go.of (fun _ k => XS.iconst X15.here hx rfl (hb hby at_117) k) ?_
  show Go p e below _ T15 (mkF m 118 #[.val (.int y), .val (.int mo), .val (.int da), .val (.int ee), .val (.int (y >>> ((1 : Int32) &&& 31))), .val (.int (y &&& (1 : Int32))), .val (.ref b1), .val (.ref b3), .val (.ref b5), .val (.ref b7), .val (.ref b9), .val (.long (own_tm y mo)), .second, .val (.long (own_tm y (0 : Int32))), .second, .val (.long (own_tm (0 : Int32) mo)), .second, .val (.long (own_tm (y >>> ((1 : Int32) &&& 31)) (0 : Int32))), .second, .val (.long (own_tm (1 : Int32) (0 : Int32))), .second, .unset, .unset, .unset, .unset] [(.int (1 : Int32))])
  refine Go.of (fun _ k => XS.goto X15.here hx rfl (pc0 := 118) (pc' := 122) rfl (hb hby at_118) (by decide) (by decide) k) ?_
  show Go p e below _ T15 (mkF m 122 #[.val (.int y), .val (.int mo), .val (.int da), .val (.int ee), .val (.int (y >>> ((1 : Int32) &&& 31))), .val (.int (y &&& (1 : Int32))), .val (.ref b1), .val (.ref b3), .val (.ref b5), .val (.ref b7), .val (.ref b9), .val (.long (own_tm y mo)), .second, .val (.long (own_tm y (0 : Int32))), .second, .val (.long (own_tm (0 : Int32) mo)), .second, .val (.long (own_tm (y >>> ((1 : Int32) &&& 31)) (0 : Int32))), .second, .val (.long (own_tm (1 : Int32) (0 : Int32))), .second, .unset, .unset, .unset, .unset] [(.int (1 : Int32))])
  refine Go.of (fun _ k => XS.istore X15.here hx rfl (hb hby at_122) rfl (l' := #[.val (.int y), .val (.int mo), .val (.int da), .val (.int ee), .val (.int (y >>> ((1 : Int32) &&& 31))), .val (.int (y &&& (1 : Int32))), .val (.ref b1), .val (.ref b3), .val (.ref b5), .val (.ref b7), .val (.ref b9), .val (.long (own_tm y mo)), .second, .val (.long (own_tm y (0 : Int32))), .second, .val (.long (own_tm (0 : Int32) mo)), .second, .val (.long (own_tm (y >>> ((1 : Int32) &&& 31)) (0 : Int32))), .second, .val (.long (own_tm (1 : Int32) (0 : Int32))), .second, .val (.int (1 : Int32)), .unset, .unset, .unset]) rfl k) ?_
  show Go p e below _ T15 (mkF m 124 #[.val (.int y), .val (.int mo), .val (.int da), .val (.int ee), .val (.int (y >>> ((1 : Int32) &&& 31))), .val (.int (y &&& (1 : Int32))), .val (.ref b1), .val (.ref b3), .val (.ref b5), .val (.ref b7), .val (.ref b9), .val (.long (own_tm y mo)), .second, .val (.long (own_tm y (0 : Int32))), .second, .val (.long (own_tm (0 : Int32) mo)), .second, .val (.long (own_tm (y >>> ((1 : Int32) &&& 31)) (0 : Int32))), .second, .val (.long (own_tm (1 : Int32) (0 : Int32))), .second, .val (.int (1 : Int32)), .unset, .unset, .unset] [])
  refine Go.of (fun _ k => XS.lload X15.here hx rfl (hb hby at_124) rfl k) ?_
  show Go p e below _ T15 (mkF m 126 #[.val (.int y), .val (.int mo), .val (.int da), .val (.int ee), .val (.int (y >>> ((1 : Int32) &&& 31))), .val (.int (y &&& (1 : Int32))), .val (.ref b1), .val (.ref b3), .val (.ref b5), .val (.ref b7), .val (.ref b9), .val (.long (own_tm y mo)), .second, .val (.long (own_tm y (0 : Int32))), .second, .val (.long (own_tm (0 : Int32) mo)), .second, .val (.long (own_tm (y >>> ((1 : Int32) &&& 31)) (0 : Int32))), .second, .val (.long (own_tm (1 : Int32) (0 : Int32))), .second, .val (.int (1 : Int32)), .unset, .unset, .unset] [(.long (own_tm (0 : Int32) mo))])
  refine Go.of (fun _ k => XS.iloadN X15.here hx rfl (hb hby at_126) rfl k) ?_
  show Go p e below _ T15 (mkF m 127 #[.val (.int y), .val (.int mo), .val (.int da), .val (.int ee), .val (.int (y >>> ((1 : Int32) &&& 31))), .val (.int (y &&& (1 : Int32))), .val (.ref b1), .val (.ref b3), .val (.ref b5), .val (.ref b7), .val (.ref b9), .val (.long (own_tm y mo)), .second, .val (.long (own_tm y (0 : Int32))), .second, .val (.long (own_tm (0 : Int32) mo)), .second, .val (.long (own_tm (y >>> ((1 : Int32) &&& 31)) (0 : Int32))), .second, .val (.long (own_tm (1 : Int32) (0 : Int32))), .second, .val (.int (1 : Int32)), .unset, .unset, .unset] [(.int mo), (.long (own_tm (0 : Int32) mo))])
  refine Go.of (fun _ k => XS.i2l X15.here hx rfl (hb hby at_127) rfl k) ?_
  show Go p e below _ T15 (mkF m 128 #[.val (.int y), .val (.int mo), .val (.int da), .val (.int ee), .val (.int (y >>> ((1 : Int32) &&& 31))), .val (.int (y &&& (1 : Int32))), .val (.ref b1), .val (.ref b3), .val (.ref b5), .val (.ref b7), .val (.ref b9), .val (.long (own_tm y mo)), .second, .val (.long (own_tm y (0 : Int32))), .second, .val (.long (own_tm (0 : Int32) mo)), .second, .val (.long (own_tm (y >>> ((1 : Int32) &&& 31)) (0 : Int32))), .second, .val (.long (own_tm (1 : Int32) (0 : Int32))), .second, .val (.int (1 : Int32)), .unset, .unset, .unset] [(.long (mo.toInt64)), (.long (own_tm (0 : Int32) mo))])
  refine Go.of (fun _ k => XS.lcmp X15.here hx rfl (hb hby at_128) rfl k) ?_
  show Go p e below _ T15 (mkF m 129 #[.val (.int y), .val (.int mo), .val (.int da), .val (.int ee), .val (.int (y >>> ((1 : Int32) &&& 31))), .val (.int (y &&& (1 : Int32))), .val (.ref b1), .val (.ref b3), .val (.ref b5), .val (.ref b7), .val (.ref b9), .val (.long (own_tm y mo)), .second, .val (.long (own_tm y (0 : Int32))), .second, .val (.long (own_tm (0 : Int32) mo)), .second, .val (.long (own_tm (y >>> ((1 : Int32) &&& 31)) (0 : Int32))), .second, .val (.long (own_tm (1 : Int32) (0 : Int32))), .second, .val (.int (1 : Int32)), .unset, .unset, .unset] [(.int (XS.cmpL (own_tm (0 : Int32) mo) (mo.toInt64)))])
  refine Go.of (fun _ k => XS.ifNo X15.here hx rfl (hb hby at_129) rfl ((if0 _ _).trans (teq (own_cmp0 (own_l2 _) : (XS.cmpL (own_tm (0 : Int32) mo) (mo.toInt64)) = (0 : Int32))).2) k) ?_
  show Go p e below _ T15 (mkF m 132 #[.val (.int y), .val (.int mo), .val (.int da), .val (.int ee), .val (.int (y >>> ((1 : Int32) &&& 31))), .val (.int (y &&& (1 : Int32))), .val (.ref b1), .val (.ref b3), .val (.ref b5), .val (.ref b7), .val (.ref b9), .val (.long (own_tm y mo)), .second, .val (.long (own_tm y (0 : Int32))), .second, .val (.long (own_tm (0 : Int32) mo)), .second, .val (.long (own_tm (y >>> ((1 : Int32) &&& 31)) (0 : Int32))), .second, .val (.long (own_tm (1 : Int32) (0 : Int32))), .second, .val (.int (1 : Int32)), .unset, .unset, .unset] [])
  refine Go.of (fun _ k => XS.iconst X15.here hx rfl (hb hby at_132) k) ?_
  show Go p e below _ T15 (mkF m 133 #[.val (.int y), .val (.int mo), .val (.int da), .val (.int ee), .val (.int (y >>> ((1 : Int32) &&& 31))), .val (.int (y &&& (1 : Int32))), .val (.ref b1), .val (.ref b3), .val (.ref b5), .val (.ref b7), .val (.ref b9), .val (.long (own_tm y mo)), .second, .val (.long (own_tm y (0 : Int32))), .second, .val (.long (own_tm (0 : Int32) mo)), .second, .val (.long (own_tm (y >>> ((1 : Int32) &&& 31)) (0 : Int32))), .second, .val (.long (own_tm (1 : Int32) (0 : Int32))), .second, .val (.int (1 : Int32)), .unset, .unset, .unset] [(.int (1 : Int32))])
  refine Go.of (fun _ k => XS.goto X15.here hx rfl (pc0 := 133) (pc' := 137) rfl (hb hby at_133) (by decide) (by decide) k) ?_
  show Go p e below _ T15 (mkF m 137 #[.val (.int y), .val (.int mo), .val (.int da), .val (.int ee), .val (.int (y >>> ((1 : Int32) &&& 31))), .val (.int (y &&& (1 : Int32))), .val (.ref b1), .val (.ref b3), .val (.ref b5), .val (.ref b7), .val (.ref b9), .val (.long (own_tm y mo)), .second, .val (.long (own_tm y (0 : Int32))), .second, .val (.long (own_tm (0 : Int32) mo)), .second, .val (.long (own_tm (y >>> ((1 : Int32) &&& 31)) (0 : Int32))), .second, .val (.long (own_tm (1 : Int32) (0 : Int32))), .second, .val (.int (1 : Int32)), .unset, .unset, .unset] [(.int (1 : Int32))])
  refine Go.of (fun _ k => XS.istore X15.here hx rfl (hb hby at_137) rfl (l' := #[.val (.int y), .val (.int mo), .val (.int da), .val (.int ee), .val (.int (y >>> ((1 : Int32) &&& 31))), .val (.int (y &&& (1 : Int32))), .val (.ref b1), .val (.ref b3), .val (.ref b5), .val (.ref b7), .val (.ref b9), .val (.long (own_tm y mo)), .second, .val (.long (own_tm y (0 : Int32))), .second, .val (.long (own_tm (0 : Int32) mo)), .second, .val (.long (own_tm (y >>> ((1 : Int32) &&& 31)) (0 : Int32))), .second, .val (.long (own_tm (1 : Int32) (0 : Int32))), .second, .val (.int (1 : Int32)), .val (.int (1 : Int32)), .unset, .unset]) rfl k) ?_
  show Go p e below _ T15 (mkF m 139 #[.val (.int y), .val (.int mo), .val (.int da), .val (.int ee), .val (.int (y >>> ((1 : Int32) &&& 31))), .val (.int (y &&& (1 : Int32))), .val (.ref b1), .val (.ref b3), .val (.ref b5), .val (.ref b7), .val (.ref b9), .val (.long (own_tm y mo)), .second, .val (.long (own_tm y (0 : Int32))), .second, .val (.long (own_tm (0 : Int32) mo)), .second, .val (.long (own_tm (y >>> ((1 : Int32) &&& 31)) (0 : Int32))), .second, .val (.long (own_tm (1 : Int32) (0 : Int32))), .second, .val (.int (1 : Int32)), .val (.int (1 : Int32)), .unset, .unset] [])
  refine Go.of (fun _ k => XS.lload X15.here hx rfl (hb hby at_139) rfl k) ?_
  show Go p e below _ T15 (mkF m 141 #[.val (.int y), .val (.int mo), .val (.int da), .val (.int ee), .val (.int (y >>> ((1 : Int32) &&& 31))), .val (.int (y &&& (1 : Int32))), .val (.ref b1), .val (.ref b3), .val (.ref b5), .val (.ref b7), .val (.ref b9), .val (.long (own_tm y mo)), .second, .val (.long (own_tm y (0 : Int32))), .second, .val (.long (own_tm (0 : Int32) mo)), .second, .val (.long (own_tm (y >>> ((1 : Int32) &&& 31)) (0 : Int32))), .second, .val (.long (own_tm (1 : Int32) (0 : Int32))), .second, .val (.int (1 : Int32)), .val (.int (1 : Int32)), .unset, .unset] [(.long (own_tm y (0 : Int32)))])
  refine Go.of (X15.ldc2Long hx hown (mvT hZ (hw _ (List.mem_of_getElem? (i := 26) rfl))) (g := (mkF m 141 #[.val (.int y), .val (.int mo), .val (.int da), .val (.int ee), .val (.int (y >>> ((1 : Int32) &&& 31))), .val (.int (y &&& (1 : Int32))), .val (.ref b1), .val (.ref b3), .val (.ref b5), .val (.ref b7), .val (.ref b9), .val (.long (own_tm y mo)), .second, .val (.long (own_tm y (0 : Int32))), .second, .val (.long (own_tm (0 : Int32) mo)), .second, .val (.long (own_tm (y >>> ((1 : Int32) &&& 31)) (0 : Int32))), .second, .val (.long (own_tm (1 : Int32) (0 : Int32))), .second, .val (.int (1 : Int32)), .val (.int (1 : Int32)), .unset, .unset] [(.long (own_tm y (0 : Int32)))])) rfl (hb hby at_141)) ?_
  show Go p e below _ T15 (mkF m 144 #[.val (.int y), .val (.int mo), .val (.int da), .val (.int ee), .val (.int (y >>> ((1 : Int32) &&& 31))), .val (.int (y &&& (1 : Int32))), .val (.ref b1), .val (.ref b3), .val (.ref b5), .val (.ref b7), .val (.ref b9), .val (.long (own_tm y mo)), .second, .val (.long (own_tm y (0 : Int32))), .second, .val (.long (own_tm (0 : Int32) mo)), .second, .val (.long (own_tm (y >>> ((1 : Int32) &&& 31)) (0 : Int32))), .second, .val (.long (own_tm (1 : Int32) (0 : Int32))), .second, .val (.int (1 : Int32)), .val (.int (1 : Int32)), .unset, .unset] [(.long (2 : Int64)), (.long (own_tm y (0 : Int32)))])
  refine Go.of (fun _ k => XS.lload X15.here hx rfl (hb hby at_144) rfl k) ?_
  show Go p e below _ T15 (mkF m 146 #[.val (.int y), .val (.int mo), .val (.int da), .val (.int ee), .val (.int (y >>> ((1 : Int32) &&& 31))), .val (.int (y &&& (1 : Int32))), .val (.ref b1), .val (.ref b3), .val (.ref b5), .val (.ref b7), .val (.ref b9), .val (.long (own_tm y mo)), .second, .val (.long (own_tm y (0 : Int32))), .second, .val (.long (own_tm (0 : Int32) mo)), .second, .val (.long (own_tm (y >>> ((1 : Int32) &&& 31)) (0 : Int32))), .second, .val (.long (own_tm (1 : Int32) (0 : Int32))), .second, .val (.int (1 : Int32)), .val (.int (1 : Int32)), .unset, .unset] [(.long (own_tm (y >>> ((1 : Int32) &&& 31)) (0 : Int32))), (.long (2 : Int64)), (.long (own_tm y (0 : Int32)))])
  refine Go.of (fun _ k => XS.lmul X15.here hx rfl (hb hby at_146) rfl k) ?_
  show Go p e below _ T15 (mkF m 147 #[.val (.int y), .val (.int mo), .val (.int da), .val (.int ee), .val (.int (y >>> ((1 : Int32) &&& 31))), .val (.int (y &&& (1 : Int32))), .val (.ref b1), .val (.ref b3), .val (.ref b5), .val (.ref b7), .val (.ref b9), .val (.long (own_tm y mo)), .second, .val (.long (own_tm y (0 : Int32))), .second, .val (.long (own_tm (0 : Int32) mo)), .second, .val (.long (own_tm (y >>> ((1 : Int32) &&& 31)) (0 : Int32))), .second, .val (.long (own_tm (1 : Int32) (0 : Int32))), .second, .val (.int (1 : Int32)), .val (.int (1 : Int32)), .unset, .unset] [(.long ((2 : Int64) * (own_tm (y >>> ((1 : Int32) &&& 31)) (0 : Int32)))), (.long (own_tm y (0 : Int32)))])
  refine Go.of (X15.ldc2Long hx hown (mvT hZ (hw _ (List.mem_of_getElem? (i := 27) rfl))) (g := (mkF m 147 #[.val (.int y), .val (.int mo), .val (.int da), .val (.int ee), .val (.int (y >>> ((1 : Int32) &&& 31))), .val (.int (y &&& (1 : Int32))), .val (.ref b1), .val (.ref b3), .val (.ref b5), .val (.ref b7), .val (.ref b9), .val (.long (own_tm y mo)), .second, .val (.long (own_tm y (0 : Int32))), .second, .val (.long (own_tm (0 : Int32) mo)), .second, .val (.long (own_tm (y >>> ((1 : Int32) &&& 31)) (0 : Int32))), .second, .val (.long (own_tm (1 : Int32) (0 : Int32))), .second, .val (.int (1 : Int32)), .val (.int (1 : Int32)), .unset, .unset] [(.long ((2 : Int64) * (own_tm (y >>> ((1 : Int32) &&& 31)) (0 : Int32)))), (.long (own_tm y (0 : Int32)))])) rfl (hb hby at_147)) ?_
  show Go p e below _ T15 (mkF m 150 #[.val (.int y), .val (.int mo), .val (.int da), .val (.int ee), .val (.int (y >>> ((1 : Int32) &&& 31))), .val (.int (y &&& (1 : Int32))), .val (.ref b1), .val (.ref b3), .val (.ref b5), .val (.ref b7), .val (.ref b9), .val (.long (own_tm y mo)), .second, .val (.long (own_tm y (0 : Int32))), .second, .val (.long (own_tm (0 : Int32) mo)), .second, .val (.long (own_tm (y >>> ((1 : Int32) &&& 31)) (0 : Int32))), .second, .val (.long (own_tm (1 : Int32) (0 : Int32))), .second, .val (.int (1 : Int32)), .val (.int (1 : Int32)), .unset, .unset] [(.long (12 : Int64)), (.long ((2 : Int64) * (own_tm (y >>> ((1 : Int32) &&& 31)) (0 : Int32)))), (.long (own_tm y (0 : Int32)))])
  refine Go.of (fun _ k => XS.iload X15.here hx rfl (hb hby at_150) rfl k) ?_
  show Go p e below _ T15 (mkF m 152 #[.val (.int y), .val (.int mo), .val (.int da), .val (.int ee), .val (.int (y >>> ((1 : Int32) &&& 31))), .val (.int (y &&& (1 : Int32))), .val (.ref b1), .val (.ref b3), .val (.ref b5), .val (.ref b7), .val (.ref b9), .val (.long (own_tm y mo)), .second, .val (.long (own_tm y (0 : Int32))), .second, .val (.long (own_tm (0 : Int32) mo)), .second, .val (.long (own_tm (y >>> ((1 : Int32) &&& 31)) (0 : Int32))), .second, .val (.long (own_tm (1 : Int32) (0 : Int32))), .second, .val (.int (1 : Int32)), .val (.int (1 : Int32)), .unset, .unset] [(.int (y &&& (1 : Int32))), (.long (12 : Int64)), (.long ((2 : Int64) * (own_tm (y >>> ((1 : Int32) &&& 31)) (0 : Int32)))), (.long (own_tm y (0 : Int32)))])
  refine Go.of (fun _ k => XS.i2l X15.here hx rfl (hb hby at_152) rfl k) ?_
  show Go p e below _ T15 (mkF m 153 #[.val (.int y), .val (.int mo), .val (.int da), .val (.int ee), .val (.int (y >>> ((1 : Int32) &&& 31))), .val (.int (y &&& (1 : Int32))), .val (.ref b1), .val (.ref b3), .val (.ref b5), .val (.ref b7), .val (.ref b9), .val (.long (own_tm y mo)), .second, .val (.long (own_tm y (0 : Int32))), .second, .val (.long (own_tm (0 : Int32) mo)), .second, .val (.long (own_tm (y >>> ((1 : Int32) &&& 31)) (0 : Int32))), .second, .val (.long (own_tm (1 : Int32) (0 : Int32))), .second, .val (.int (1 : Int32)), .val (.int (1 : Int32)), .unset, .unset] [(.long ((y &&& (1 : Int32)).toInt64)), (.long (12 : Int64)), (.long ((2 : Int64) * (own_tm (y >>> ((1 : Int32) &&& 31)) (0 : Int32)))), (.long (own_tm y (0 : Int32)))])
  refine Go.of (fun _ k => XS.lmul X15.here hx rfl (hb hby at_153) rfl k) ?_
  show Go p e below _ T15 (mkF m 154 #[.val (.int y), .val (.int mo), .val (.int da), .val (.int ee), .val (.int (y >>> ((1 : Int32) &&& 31))), .val (.int (y &&& (1 : Int32))), .val (.ref b1), .val (.ref b3), .val (.ref b5), .val (.ref b7), .val (.ref b9), .val (.long (own_tm y mo)), .second, .val (.long (own_tm y (0 : Int32))), .second, .val (.long (own_tm (0 : Int32) mo)), .second, .val (.long (own_tm (y >>> ((1 : Int32) &&& 31)) (0 : Int32))), .second, .val (.long (own_tm (1 : Int32) (0 : Int32))), .second, .val (.int (1 : Int32)), .val (.int (1 : Int32)), .unset, .unset] [(.long ((12 : Int64) * ((y &&& (1 : Int32)).toInt64))), (.long ((2 : Int64) * (own_tm (y >>> ((1 : Int32) &&& 31)) (0 : Int32)))), (.long (own_tm y (0 : Int32)))])
  refine Go.of (fun _ k => XS.ladd X15.here hx rfl (hb hby at_154) rfl k) ?_
  show Go p e below _ T15 (mkF m 155 #[.val (.int y), .val (.int mo), .val (.int da), .val (.int ee), .val (.int (y >>> ((1 : Int32) &&& 31))), .val (.int (y &&& (1 : Int32))), .val (.ref b1), .val (.ref b3), .val (.ref b5), .val (.ref b7), .val (.ref b9), .val (.long (own_tm y mo)), .second, .val (.long (own_tm y (0 : Int32))), .second, .val (.long (own_tm (0 : Int32) mo)), .second, .val (.long (own_tm (y >>> ((1 : Int32) &&& 31)) (0 : Int32))), .second, .val (.long (own_tm (1 : Int32) (0 : Int32))), .second, .val (.int (1 : Int32)), .val (.int (1 : Int32)), .unset, .unset] [(.long (((2 : Int64) * (own_tm (y >>> ((1 : Int32) &&& 31)) (0 : Int32))) + ((12 : Int64) * ((y &&& (1 : Int32)).toInt64)))), (.long (own_tm y (0 : Int32)))])
  refine Go.of (fun _ k => XS.lcmp X15.here hx rfl (hb hby at_155) rfl k) ?_
  show Go p e below _ T15 (mkF m 156 #[.val (.int y), .val (.int mo), .val (.int da), .val (.int ee), .val (.int (y >>> ((1 : Int32) &&& 31))), .val (.int (y &&& (1 : Int32))), .val (.ref b1), .val (.ref b3), .val (.ref b5), .val (.ref b7), .val (.ref b9), .val (.long (own_tm y mo)), .second, .val (.long (own_tm y (0 : Int32))), .second, .val (.long (own_tm (0 : Int32) mo)), .second, .val (.long (own_tm (y >>> ((1 : Int32) &&& 31)) (0 : Int32))), .second, .val (.long (own_tm (1 : Int32) (0 : Int32))), .second, .val (.int (1 : Int32)), .val (.int (1 : Int32)), .unset, .unset] [(.int (XS.cmpL (own_tm y (0 : Int32)) (((2 : Int64) * (own_tm (y >>> ((1 : Int32) &&& 31)) (0 : Int32))) + ((12 : Int64) * ((y &&& (1 : Int32)).toInt64)))))])
  refine Go.of (fun _ k => XS.ifNo X15.here hx rfl (hb hby at_156) rfl ((if0 _ _).trans (teq (own_cmp0 (own_l3 _) : (XS.cmpL (own_tm y (0 : Int32)) (((2 : Int64) * (own_tm (y >>> ((1 : Int32) &&& 31)) (0 : Int32))) + ((12 : Int64) * ((y &&& (1 : Int32)).toInt64)))) = (0 : Int32))).2) k) ?_
  show Go p e below _ T15 (mkF m 159 #[.val (.int y), .val (.int mo), .val (.int da), .val (.int ee), .val (.int (y >>> ((1 : Int32) &&& 31))), .val (.int (y &&& (1 : Int32))), .val (.ref b1), .val (.ref b3), .val (.ref b5), .val (.ref b7), .val (.ref b9), .val (.long (own_tm y mo)), .second, .val (.long (own_tm y (0 : Int32))), .second, .val (.long (own_tm (0 : Int32) mo)), .second, .val (.long (own_tm (y >>> ((1 : Int32) &&& 31)) (0 : Int32))), .second, .val (.long (own_tm (1 : Int32) (0 : Int32))), .second, .val (.int (1 : Int32)), .val (.int (1 : Int32)), .unset, .unset] [])
  refine Go.of (fun _ k => XS.iconst X15.here hx rfl (hb hby at_159) k) ?_
  show Go p e below _ T15 (mkF m 160 #[.val (.int y), .val (.int mo), .val (.int da), .val (.int ee), .val (.int (y >>> ((1 : Int32) &&& 31))), .val (.int (y &&& (1 : Int32))), .val (.ref b1), .val (.ref b3), .val (.ref b5), .val (.ref b7), .val (.ref b9), .val (.long (own_tm y mo)), .second, .val (.long (own_tm y (0 : Int32))), .second, .val (.long (own_tm (0 : Int32) mo)), .second, .val (.long (own_tm (y >>> ((1 : Int32) &&& 31)) (0 : Int32))), .second, .val (.long (own_tm (1 : Int32) (0 : Int32))), .second, .val (.int (1 : Int32)), .val (.int (1 : Int32)), .unset, .unset] [(.int (1 : Int32))])
  refine Go.of (fun _ k => XS.goto X15.here hx rfl (pc0 := 160) (pc' := 164) rfl (hb hby at_160) (by decide) (by decide) k) ?_
  show Go p e below _ T15 (mkF m 164 #[.val (.int y), .val (.int mo), .val (.int da), .val (.int ee), .val (.int (y >>> ((1 : Int32) &&& 31))), .val (.int (y &&& (1 : Int32))), .val (.ref b1), .val (.ref b3), .val (.ref b5), .val (.ref b7), .val (.ref b9), .val (.long (own_tm y mo)), .second, .val (.long (own_tm y (0 : Int32))), .second, .val (.long (own_tm (0 : Int32) mo)), .second, .val (.long (own_tm (y >>> ((1 : Int32) &&& 31)) (0 : Int32))), .second, .val (.long (own_tm (1 : Int32) (0 : Int32))), .second, .val (.int (1 : Int32)), .val (.int (1 : Int32)), .unset, .unset] [(.int (1 : Int32))])
  refine Go.of (fun _ k => XS.istore X15.here hx rfl (hb hby at_164) rfl (l' := #[.val (.int y), .val (.int mo), .val (.int da), .val (.int ee), .val (.int (y >>> ((1 : Int32) &&& 31))), .val (.int (y &&& (1 : Int32))), .val (.ref b1), .val (.ref b3), .val (.ref b5), .val (.ref b7), .val (.ref b9), .val (.long (own_tm y mo)), .second, .val (.long (own_tm y (0 : Int32))), .second, .val (.long (own_tm (0 : Int32) mo)), .second, .val (.long (own_tm (y >>> ((1 : Int32) &&& 31)) (0 : Int32))), .second, .val (.long (own_tm (1 : Int32) (0 : Int32))), .second, .val (.int (1 : Int32)), .val (.int (1 : Int32)), .val (.int (1 : Int32)), .unset]) rfl k) ?_
  show Go p e below _ T15 (mkF m 166 #[.val (.int y), .val (.int mo), .val (.int da), .val (.int ee), .val (.int (y >>> ((1 : Int32) &&& 31))), .val (.int (y &&& (1 : Int32))), .val (.ref b1), .val (.ref b3), .val (.ref b5), .val (.ref b7), .val (.ref b9), .val (.long (own_tm y mo)), .second, .val (.long (own_tm y (0 : Int32))), .second, .val (.long (own_tm (0 : Int32) mo)), .second, .val (.long (own_tm (y >>> ((1 : Int32) &&& 31)) (0 : Int32))), .second, .val (.long (own_tm (1 : Int32) (0 : Int32))), .second, .val (.int (1 : Int32)), .val (.int (1 : Int32)), .val (.int (1 : Int32)), .unset] [])
  refine Go.of (fun _ k => XS.lload X15.here hx rfl (hb hby at_166) rfl k) ?_
  show Go p e below _ T15 (mkF m 168 #[.val (.int y), .val (.int mo), .val (.int da), .val (.int ee), .val (.int (y >>> ((1 : Int32) &&& 31))), .val (.int (y &&& (1 : Int32))), .val (.ref b1), .val (.ref b3), .val (.ref b5), .val (.ref b7), .val (.ref b9), .val (.long (own_tm y mo)), .second, .val (.long (own_tm y (0 : Int32))), .second, .val (.long (own_tm (0 : Int32) mo)), .second, .val (.long (own_tm (y >>> ((1 : Int32) &&& 31)) (0 : Int32))), .second, .val (.long (own_tm (1 : Int32) (0 : Int32))), .second, .val (.int (1 : Int32)), .val (.int (1 : Int32)), .val (.int (1 : Int32)), .unset] [(.long (own_tm (1 : Int32) (0 : Int32)))])
  refine Go.of (X15.ldc2Long hx hown (mvT hZ (hw _ (List.mem_of_getElem? (i := 27) rfl))) (g := (mkF m 168 #[.val (.int y), .val (.int mo), .val (.int da), .val (.int ee), .val (.int (y >>> ((1 : Int32) &&& 31))), .val (.int (y &&& (1 : Int32))), .val (.ref b1), .val (.ref b3), .val (.ref b5), .val (.ref b7), .val (.ref b9), .val (.long (own_tm y mo)), .second, .val (.long (own_tm y (0 : Int32))), .second, .val (.long (own_tm (0 : Int32) mo)), .second, .val (.long (own_tm (y >>> ((1 : Int32) &&& 31)) (0 : Int32))), .second, .val (.long (own_tm (1 : Int32) (0 : Int32))), .second, .val (.int (1 : Int32)), .val (.int (1 : Int32)), .val (.int (1 : Int32)), .unset] [(.long (own_tm (1 : Int32) (0 : Int32)))])) rfl (hb hby at_168)) ?_
  show Go p e below _ T15 (mkF m 171 #[.val (.int y), .val (.int mo), .val (.int da), .val (.int ee), .val (.int (y >>> ((1 : Int32) &&& 31))), .val (.int (y &&& (1 : Int32))), .val (.ref b1), .val (.ref b3), .val (.ref b5), .val (.ref b7), .val (.ref b9), .val (.long (own_tm y mo)), .second, .val (.long (own_tm y (0 : Int32))), .second, .val (.long (own_tm (0 : Int32) mo)), .second, .val (.long (own_tm (y >>> ((1 : Int32) &&& 31)) (0 : Int32))), .second, .val (.long (own_tm (1 : Int32) (0 : Int32))), .second, .val (.int (1 : Int32)), .val (.int (1 : Int32)), .val (.int (1 : Int32)), .unset] [(.long (12 : Int64)), (.long (own_tm (1 : Int32) (0 : Int32)))])
  refine Go.of (fun _ k => XS.lcmp X15.here hx rfl (hb hby at_171) rfl k) ?_
  show Go p e below _ T15 (mkF m 172 #[.val (.int y), .val (.int mo), .val (.int da), .val (.int ee), .val (.int (y >>> ((1 : Int32) &&& 31))), .val (.int (y &&& (1 : Int32))), .val (.ref b1), .val (.ref b3), .val (.ref b5), .val (.ref b7), .val (.ref b9), .val (.long (own_tm y mo)), .second, .val (.long (own_tm y (0 : Int32))), .second, .val (.long (own_tm (0 : Int32) mo)), .second, .val (.long (own_tm (y >>> ((1 : Int32) &&& 31)) (0 : Int32))), .second, .val (.long (own_tm (1 : Int32) (0 : Int32))), .second, .val (.int (1 : Int32)), .val (.int (1 : Int32)), .val (.int (1 : Int32)), .unset] [(.int (XS.cmpL (own_tm (1 : Int32) (0 : Int32)) (12 : Int64)))])
  refine Go.of (fun _ k => XS.ifNo X15.here hx rfl (hb hby at_172) rfl ((if0 _ _).trans (teq (own_cmp0 (own_l4) : (XS.cmpL (own_tm (1 : Int32) (0 : Int32)) (12 : Int64)) = (0 : Int32))).2) k) ?_
  show Go p e below _ T15 (mkF m 175 #[.val (.int y), .val (.int mo), .val (.int da), .val (.int ee), .val (.int (y >>> ((1 : Int32) &&& 31))), .val (.int (y &&& (1 : Int32))), .val (.ref b1), .val (.ref b3), .val (.ref b5), .val (.ref b7), .val (.ref b9), .val (.long (own_tm y mo)), .second, .val (.long (own_tm y (0 : Int32))), .second, .val (.long (own_tm (0 : Int32) mo)), .second, .val (.long (own_tm (y >>> ((1 : Int32) &&& 31)) (0 : Int32))), .second, .val (.long (own_tm (1 : Int32) (0 : Int32))), .second, .val (.int (1 : Int32)), .val (.int (1 : Int32)), .val (.int (1 : Int32)), .unset] [])
  refine Go.of (fun _ k => XS.iconst X15.here hx rfl (hb hby at_175) k) ?_
  show Go p e below _ T15 (mkF m 176 #[.val (.int y), .val (.int mo), .val (.int da), .val (.int ee), .val (.int (y >>> ((1 : Int32) &&& 31))), .val (.int (y &&& (1 : Int32))), .val (.ref b1), .val (.ref b3), .val (.ref b5), .val (.ref b7), .val (.ref b9), .val (.long (own_tm y mo)), .second, .val (.long (own_tm y (0 : Int32))), .second, .val (.long (own_tm (0 : Int32) mo)), .second, .val (.long (own_tm (y >>> ((1 : Int32) &&& 31)) (0 : Int32))), .second, .val (.long (own_tm (1 : Int32) (0 : Int32))), .second, .val (.int (1 : Int32)), .val (.int (1 : Int32)), .val (.int (1 : Int32)), .unset] [(.int (1 : Int32))])
  refine Go.of (fun _ k => XS.goto X15.here hx rfl (pc0 := 176) (pc' := 180) rfl (hb hby at_176) (by decide) (by decide) k) ?_
  show Go p e below _ T15 (mkF m 180 #[.val (.int y), .val (.int mo), .val (.int da), .val (.int ee), .val (.int (y >>> ((1 : Int32) &&& 31))), .val (.int (y &&& (1 : Int32))), .val (.ref b1), .val (.ref b3), .val (.ref b5), .val (.ref b7), .val (.ref b9), .val (.long (own_tm y mo)), .second, .val (.long (own_tm y (0 : Int32))), .second, .val (.long (own_tm (0 : Int32) mo)), .second, .val (.long (own_tm (y >>> ((1 : Int32) &&& 31)) (0 : Int32))), .second, .val (.long (own_tm (1 : Int32) (0 : Int32))), .second, .val (.int (1 : Int32)), .val (.int (1 : Int32)), .val (.int (1 : Int32)), .unset] [(.int (1 : Int32))])
  refine Go.of (fun _ k => XS.istore X15.here hx rfl (hb hby at_180) rfl (l' := #[.val (.int y), .val (.int mo), .val (.int da), .val (.int ee), .val (.int (y >>> ((1 : Int32) &&& 31))), .val (.int (y &&& (1 : Int32))), .val (.ref b1), .val (.ref b3), .val (.ref b5), .val (.ref b7), .val (.ref b9), .val (.long (own_tm y mo)), .second, .val (.long (own_tm y (0 : Int32))), .second, .val (.long (own_tm (0 : Int32) mo)), .second, .val (.long (own_tm (y >>> ((1 : Int32) &&& 31)) (0 : Int32))), .second, .val (.long (own_tm (1 : Int32) (0 : Int32))), .second, .val (.int (1 : Int32)), .val (.int (1 : Int32)), .val (.int (1 : Int32)), .val (.int (1 : Int32))]) rfl k) ?_
  show Go p e below _ T15 (mkF m 182 #[.val (.int y), .val (.int mo), .val (.int da), .val (.int ee), .val (.int (y >>> ((1 : Int32) &&& 31))), .val (.int (y &&& (1 : Int32))), .val (.ref b1), .val (.ref b3), .val (.ref b5), .val (.ref b7), .val (.ref b9), .val (.long (own_tm y mo)), .second, .val (.long (own_tm y (0 : Int32))), .second, .val (.long (own_tm (0 : Int32) mo)), .second, .val (.long (own_tm (y >>> ((1 : Int32) &&& 31)) (0 : Int32))), .second, .val (.long (own_tm (1 : Int32) (0 : Int32))), .second, .val (.int (1 : Int32)), .val (.int (1 : Int32)), .val (.int (1 : Int32)), .val (.int (1 : Int32))] [])
  refine Go.of (fun _ k => XS.iload X15.here hx rfl (hb hby at_182) rfl k) ?_
  show Go p e below _ T15 (mkF m 184 #[.val (.int y), .val (.int mo), .val (.int da), .val (.int ee), .val (.int (y >>> ((1 : Int32) &&& 31))), .val (.int (y &&& (1 : Int32))), .val (.ref b1), .val (.ref b3), .val (.ref b5), .val (.ref b7), .val (.ref b9), .val (.long (own_tm y mo)), .second, .val (.long (own_tm y (0 : Int32))), .second, .val (.long (own_tm (0 : Int32) mo)), .second, .val (.long (own_tm (y >>> ((1 : Int32) &&& 31)) (0 : Int32))), .second, .val (.long (own_tm (1 : Int32) (0 : Int32))), .second, .val (.int (1 : Int32)), .val (.int (1 : Int32)), .val (.int (1 : Int32)), .val (.int (1 : Int32))] [(.int (1 : Int32))])
  refine Go.of (fun _ k => XS.ifNo X15.here hx rfl (hb hby at_184) rfl ((if0 _ _).trans (feq (by decide : ¬ ((1 : Int32) = (0 : Int32)))).1) k) ?_
  show Go p e below _ T15 (mkF m 187 #[.val (.int y), .val (.int mo), .val (.int da), .val (.int ee), .val (.int (y >>> ((1 : Int32) &&& 31))), .val (.int (y &&& (1 : Int32))), .val (.ref b1), .val (.ref b3), .val (.ref b5), .val (.ref b7), .val (.ref b9), .val (.long (own_tm y mo)), .second, .val (.long (own_tm y (0 : Int32))), .second, .val (.long (own_tm (0 : Int32) mo)), .second, .val (.long (own_tm (y >>> ((1 : Int32) &&& 31)) (0 : Int32))), .second, .val (.long (own_tm (1 : Int32) (0 : Int32))), .second, .val (.int (1 : Int32)), .val (.int (1 : Int32)), .val (.int (1 : Int32)), .val (.int (1 : Int32))] [])
  refine Go.of (fun _ k => XS.iload X15.here hx rfl (hb hby at_187) rfl k) ?_
  show Go p e below _ T15 (mkF m 189 #[.val (.int y), .val (.int mo), .val (.int da), .val (.int ee), .val (.int (y >>> ((1 : Int32) &&& 31))), .val (.int (y &&& (1 : Int32))), .val (.ref b1), .val (.ref b3), .val (.ref b5), .val (.ref b7), .val (.ref b9), .val (.long (own_tm y mo)), .second, .val (.long (own_tm y (0 : Int32))), .second, .val (.long (own_tm (0 : Int32) mo)), .second, .val (.long (own_tm (y >>> ((1 : Int32) &&& 31)) (0 : Int32))), .second, .val (.long (own_tm (1 : Int32) (0 : Int32))), .second, .val (.int (1 : Int32)), .val (.int (1 : Int32)), .val (.int (1 : Int32)), .val (.int (1 : Int32))] [(.int (1 : Int32))])
  refine Go.of (fun _ k => XS.ifNo X15.here hx rfl (hb hby at_189) rfl ((if0 _ _).trans (feq (by decide : ¬ ((1 : Int32) = (0 : Int32)))).1) k) ?_
  show Go p e below _ T15 (mkF m 192 #[.val (.int y), .val (.int mo), .val (.int da), .val (.int ee), .val (.int (y >>> ((1 : Int32) &&& 31))), .val (.int (y &&& (1 : Int32))), .val (.ref b1), .val (.ref b3), .val (.ref b5), .val (.ref b7), .val (.ref b9), .val (.long (own_tm y mo)), .second, .val (.long (own_tm y (0 : Int32))), .second, .val (.long (own_tm (0 : Int32) mo)), .second, .val (.long (own_tm (y >>> ((1 : Int32) &&& 31)) (0 : Int32))), .second, .val (.long (own_tm (1 : Int32) (0 : Int32))), .second, .val (.int (1 : Int32)), .val (.int (1 : Int32)), .val (.int (1 : Int32)), .val (.int (1 : Int32))] [])
  refine Go.of (fun _ k => XS.iload X15.here hx rfl (hb hby at_192) rfl k) ?_
  show Go p e below _ T15 (mkF m 194 #[.val (.int y), .val (.int mo), .val (.int da), .val (.int ee), .val (.int (y >>> ((1 : Int32) &&& 31))), .val (.int (y &&& (1 : Int32))), .val (.ref b1), .val (.ref b3), .val (.ref b5), .val (.ref b7), .val (.ref b9), .val (.long (own_tm y mo)), .second, .val (.long (own_tm y (0 : Int32))), .second, .val (.long (own_tm (0 : Int32) mo)), .second, .val (.long (own_tm (y >>> ((1 : Int32) &&& 31)) (0 : Int32))), .second, .val (.long (own_tm (1 : Int32) (0 : Int32))), .second, .val (.int (1 : Int32)), .val (.int (1 : Int32)), .val (.int (1 : Int32)), .val (.int (1 : Int32))] [(.int (1 : Int32))])
  refine Go.of (fun _ k => XS.ifNo X15.here hx rfl (hb hby at_194) rfl ((if0 _ _).trans (feq (by decide : ¬ ((1 : Int32) = (0 : Int32)))).1) k) ?_
  show Go p e below _ T15 (mkF m 197 #[.val (.int y), .val (.int mo), .val (.int da), .val (.int ee), .val (.int (y >>> ((1 : Int32) &&& 31))), .val (.int (y &&& (1 : Int32))), .val (.ref b1), .val (.ref b3), .val (.ref b5), .val (.ref b7), .val (.ref b9), .val (.long (own_tm y mo)), .second, .val (.long (own_tm y (0 : Int32))), .second, .val (.long (own_tm (0 : Int32) mo)), .second, .val (.long (own_tm (y >>> ((1 : Int32) &&& 31)) (0 : Int32))), .second, .val (.long (own_tm (1 : Int32) (0 : Int32))), .second, .val (.int (1 : Int32)), .val (.int (1 : Int32)), .val (.int (1 : Int32)), .val (.int (1 : Int32))] [])
  refine Go.of (fun _ k => XS.iload X15.here hx rfl (hb hby at_197) rfl k) ?_
  show Go p e below _ T15 (mkF m 199 #[.val (.int y), .val (.int mo), .val (.int da), .val (.int ee), .val (.int (y >>> ((1 : Int32) &&& 31))), .val (.int (y &&& (1 : Int32))), .val (.ref b1), .val (.ref b3), .val (.ref b5), .val (.ref b7), .val (.ref b9), .val (.long (own_tm y mo)), .second, .val (.long (own_tm y (0 : Int32))), .second, .val (.long (own_tm (0 : Int32) mo)), .second, .val (.long (own_tm (y >>> ((1 : Int32) &&& 31)) (0 : Int32))), .second, .val (.long (own_tm (1 : Int32) (0 : Int32))), .second, .val (.int (1 : Int32)), .val (.int (1 : Int32)), .val (.int (1 : Int32)), .val (.int (1 : Int32))] [(.int (1 : Int32))])
  refine Go.of (fun _ k => XS.ifNo X15.here hx rfl (hb hby at_199) rfl ((if0 _ _).trans (feq (by decide : ¬ ((1 : Int32) = (0 : Int32)))).1) k) ?_
  show Go p e below _ T15 (mkF m 202 #[.val (.int y), .val (.int mo), .val (.int da), .val (.int ee), .val (.int (y >>> ((1 : Int32) &&& 31))), .val (.int (y &&& (1 : Int32))), .val (.ref b1), .val (.ref b3), .val (.ref b5), .val (.ref b7), .val (.ref b9), .val (.long (own_tm y mo)), .second, .val (.long (own_tm y (0 : Int32))), .second, .val (.long (own_tm (0 : Int32) mo)), .second, .val (.long (own_tm (y >>> ((1 : Int32) &&& 31)) (0 : Int32))), .second, .val (.long (own_tm (1 : Int32) (0 : Int32))), .second, .val (.int (1 : Int32)), .val (.int (1 : Int32)), .val (.int (1 : Int32)), .val (.int (1 : Int32))] [])
  refine Go.of (fun _ k => XS.iconst X15.here hx rfl (hb hby at_202) k) ?_
  show Go p e below _ T15 (mkF m 203 #[.val (.int y), .val (.int mo), .val (.int da), .val (.int ee), .val (.int (y >>> ((1 : Int32) &&& 31))), .val (.int (y &&& (1 : Int32))), .val (.ref b1), .val (.ref b3), .val (.ref b5), .val (.ref b7), .val (.ref b9), .val (.long (own_tm y mo)), .second, .val (.long (own_tm y (0 : Int32))), .second, .val (.long (own_tm (0 : Int32) mo)), .second, .val (.long (own_tm (y >>> ((1 : Int32) &&& 31)) (0 : Int32))), .second, .val (.long (own_tm (1 : Int32) (0 : Int32))), .second, .val (.int (1 : Int32)), .val (.int (1 : Int32)), .val (.int (1 : Int32)), .val (.int (1 : Int32))] [(.int (1 : Int32))])
  refine Go.of (fun _ k => XS.goto X15.here hx rfl (pc0 := 203) (pc' := 207) rfl (hb hby at_203) (by decide) (by decide) k) ?_
  show Go p e below _ T15 (mkF m 207 #[.val (.int y), .val (.int mo), .val (.int da), .val (.int ee), .val (.int (y >>> ((1 : Int32) &&& 31))), .val (.int (y &&& (1 : Int32))), .val (.ref b1), .val (.ref b3), .val (.ref b5), .val (.ref b7), .val (.ref b9), .val (.long (own_tm y mo)), .second, .val (.long (own_tm y (0 : Int32))), .second, .val (.long (own_tm (0 : Int32) mo)), .second, .val (.long (own_tm (y >>> ((1 : Int32) &&& 31)) (0 : Int32))), .second, .val (.long (own_tm (1 : Int32) (0 : Int32))), .second, .val (.int (1 : Int32)), .val (.int (1 : Int32)), .val (.int (1 : Int32)), .val (.int (1 : Int32))] [(.int (1 : Int32))])
  exact Go.retN X15 hx hlk (t := .boolean) hret (by simp) (hb hby at_207) (by decide) (by decide) ⟨rfl, N10⟩
set_option maxRecDepth 65536 in
set_option maxHeartbeats 40000000 in
theorem comes_1 {Post : Tables → Env → Array Value → State → Outcome → State → Prop} (hpost : ∀ tb e args s v u, (limb_1_1.after args s (.returned v) u = true ∧ limb_1_2.after args s (.returned v) u = true ∧ True) → FrameEnd s (.returned v) u (Jvm.fieldLocs frame_1_writes args s ++ Jvm.arrayLocs frame_1_arrays args s ++ Jvm.staticLocs frame_1_statics s) 24 128 → Post tb e args s (.returned v) u) :
    ArmFor flags0 classFile x code maxLocals ret World_1 tables_1 room_1 Calls_1 rest_1 Pre_1 Post := by
  intro l hfl _ _ p e ha hc hk s m args below hf hA hF happ hP
  obtain ⟨hcalls, hrest, hpre⟩ := hP
  obtain ⟨-, -, -, hnamed, -, -, -, hat⟩ := (Spec.applies_iff hf).mp happ
  obtain ⟨hg, hn⟩ := and_e (Cond.before_iff.mp (show (Jvm.Cond.and given_1 narrow_1).before args s = true from hpre))
  obtain ⟨g0, gg0⟩ := and_e hg
  obtain ⟨ga0, gg1⟩ := and_e gg0
  obtain ⟨ga1, gg2⟩ := and_e gg1
  obtain ⟨ga2, gg3⟩ := and_e gg2
  have ga3 := gg3
  obtain ⟨w0, w1, w2, w3, rfl⟩ : ∃ w0 w1 w2 w3 : Value, args = #[w0, w1, w2, w3] := by
    have hs : args.size = 4 := by simpa [Cond.value, given_1] using g0
    obtain ⟨L⟩ := args
    match L, hs with
    | [w0, w1, w2, w3], _ => exact ⟨w0, w1, w2, w3, rfl⟩
  have hw := fun d (hd : d ∈ tables_1) => atoms_spec (ws := Jvm.Cond.code x code maxLocals ret :: tables_1) hat d (List.mem_cons_of_mem _ hd)
  have hfit : Fit s := fun {y c} hc i hi => by
    obtain ⟨ha, rfl⟩ := Array.getElem?_eq_some_iff.mp hc
    have q := List.all_eq_true.mp ((Array.all_eq_true_iff_forall_mem.mp hF) _ (Array.getElem_mem ha)) i (List.mem_range.mpr hi)
    simpa [Array.getElem?_eq_getElem hi] using q
  obtain ⟨i0, ei0⟩ := is_v ga0
  obtain rfl : w0 = (.int i0) := Option.some.inj ei0
  obtain ⟨i1, ei1⟩ := is_v ga1
  obtain rfl : w1 = (.int i1) := Option.some.inj ei1
  obtain ⟨i2, ei2⟩ := is_v ga2
  obtain rfl : w2 = (.int i2) := Option.some.inj ei2
  obtain ⟨i3, ei3⟩ := is_v ga3
  obtain rfl : w3 = (.int i3) := Option.some.inj ei3
  obtain ⟨n, o, h1, h2, h3, _, L, rfl, ⟨rfl, N⟩, hq⟩ := rm0 l s _ hw tables_1 i0 i1 i2 i3 s.heap p e ha hc hk s m _ below hf ((Spec.applies_iff_loose hf).mp happ).1 ⟨rfl, State.Warmed39.refl s, rfl⟩ trivial
  refine ⟨n, _, h1, h2, h3, hpost _ _ _ _ _ _ ⟨Cond.after_iff.mpr rfl, Cond.after_iff.mpr (eq_i res_at (Term.int_eval (1)) rfl), trivial⟩ ⟨hq.1, hq.2.1, (hq.2.2.sift fun y hy => Or.inr (N y hy)).mono (by decide) (by decide)⟩⟩
theorem main_1_1 : Claimed_1_1 := comes_1 fun _ _ _ _ _ _ h hF => ⟨h.1, hF⟩
theorem main_1_2 : Claimed_1_2 := comes_1 fun _ _ _ _ _ _ h hF => ⟨h.2.1, hF⟩
end Jvm.Pilot.@@N@@
namespace Jvm.Pilot.@@N@@
open Jvm Jvm.ClassFile Sem Op Lib Jvm.Free Jvm.Stand Jvm.Pilot.@@N@@.Jvm.D
/-! MADE BY PROGRAM (witnessworld.py) out of the Statement's table words and the real class files: 10 classes; the members and pool entries that the words name. The judged class is class 1, her method 1. -/
namespace start1
open Jvm.ClassFile
def u (s : String) : CpInfo := .utf8 (stringToUtf16 s)
/-- a pool by its gaps: so many unusable entries, then the entry; so many at the end -/
def gap : Nat → List CpInfo → List CpInfo
  | 0, r => r
  | n + 1, r => .unusable :: gap n r
def poolList (es : List (Nat × CpInfo)) (last : Nat) : List CpInfo := es.foldr (fun e r => gap e.1 (e.2 :: r)) (gap last [])
def pool (es : List (Nat × CpInfo)) (last : Nat) : Array CpInfo := ⟨poolList es last⟩
def fileOf (pool : Array CpInfo) (this : Nat) (attrs : Array Attribute := #[]) (ms : Array MethodInfo := #[]) (fl : Nat := 33) (sup : Nat := 0) (ifs : Array Nat := #[]) (fds : Array FieldInfo := #[]) : ClassFile where
  minorVersion := 0
  majorVersion := 65
  constantPool := pool
  accessFlags := fl
  thisClass := this
  superClass := sup
  interfaces := ifs
  fields := fds
  methods := ms
  attributes := attrs
def plain (name : String) (sup : Option ClassId) : Class where
  name := name
  kind := .ordinary
  loader := none
  accessFlags := 33
  super := sup
  interfaces := #[]
  cf := none
  fields := #[]
  methods := #[]
  instanceTypes := #[]
  staticTypes := #[]
  resolved := #[]
  callSites := []
  init := .initialized
  statics := none
  mirror := none

def pool0 : Array CpInfo := pool [(5, u "<init>"), (0, u "()V"), (1, .class_ 10), (1, u "java/lang/Object")] 113

def k0c0 : Code := { maxStack := 0, maxLocals := 1, code := object_method_1_code, exceptionTable := #[], attributes := #[] }
def k0m0 : Method := { name := "<init>", desc := "()V", sig := { parameters := [], returnType := none }, accessFlags := 1, code := some k0c0 }
/-- java/lang/Object -/
def k0 : Class := { plain "java/lang/Object" none with
  accessFlags := 33
  interfaces := #[]
  cf := some (fileOf pool0 8 #[] #[{ accessFlags := 1, nameIndex := 5, descriptorIndex := 6, attributes := #[] }] 33 0 #[] #[])
  fields := #[]
  methods := #[k0m0]
  instanceTypes := #[]
  staticTypes := #[]
  resolved := Array.replicate 124 none
  statics := none }

def pool1 : Array CpInfo := pool [(2, .class_ 4), (1, u "java/lang/Object"), (0, u "<init>"), (0, u "()V"), (0, .class_ 8), (0, u "com/example/vestry/vestry/engine/Elapsed"), (0, .methodref 7 10), (0, .nameAndType 5 11), (0, u "(III)V"), (0, .methodref 7 13), (0, .nameAndType 14 15), (0, u "totalMonths"), (0, u "()J"), (0, .long 2), (1, .long 12), (1, .class_ 21), (0, u "com/example/vestry/vestry/engine/ElapsedTotalMonthsPinLaw"), (2, u "law"), (0, u "(IIII)Z")] 3

def k1m0 : Method := { name := "<init>", desc := "()V", sig := { parameters := [], returnType := none }, accessFlags := 1, code := none }
def k1c1 : Code := { maxStack := 8, maxLocals := 25, code := code, exceptionTable := #[], attributes := #[] }
def k1m1 : Method := { name := "law", desc := "(IIII)Z", sig := { parameters := [.int, .int, .int, .int], returnType := some .boolean }, accessFlags := 9, code := some k1c1 }
/-- com/example/vestry/vestry/engine/ElapsedTotalMonthsPinLaw -/
def k1 : Class := { plain "com/example/vestry/vestry/engine/ElapsedTotalMonthsPinLaw" (some 0) with
  accessFlags := 49
  interfaces := #[]
  cf := some (fileOf pool1 20 #[] #[{ accessFlags := 1, nameIndex := 5, descriptorIndex := 6, attributes := #[] }, { accessFlags := 9, nameIndex := 24, descriptorIndex := 25, attributes := #[] }] 49 2 #[] #[])
  fields := #[]
  methods := #[k1m0, k1m1]
  instanceTypes := #[]
  staticTypes := #[]
  resolved := Array.replicate 29 none
  statics := none }

def pool2 : Array CpInfo := pool [(1, .methodref 2 3), (0, .class_ 4), (0, .nameAndType 5 6), (0, u "java/lang/Object"), (0, u "<init>"), (0, u "()V"), (0, .class_ 8), (0, u "java/lang/Record")] 13

def k2c0 : Code := { maxStack := 1, maxLocals := 1, code := jdk_30_method_1_code, exceptionTable := #[], attributes := #[] }
def k2m0 : Method := { name := "<init>", desc := "()V", sig := { parameters := [], returnType := none }, accessFlags := 4, code := some k2c0 }
/-- java/lang/Record -/
def k2 : Class := { plain "java/lang/Record" (some 0) with
  accessFlags := 1057
  interfaces := #[]
  cf := some (fileOf pool2 7 #[] #[{ accessFlags := 4, nameIndex := 5, descriptorIndex := 6, attributes := #[] }] 1057 2 #[] #[])
  fields := #[]
  methods := #[k2m0]
  instanceTypes := #[]
  staticTypes := #[]
  resolved := Array.replicate 22 none
  statics := none }

def pool3 : Array CpInfo := pool [(1, .methodref 2 3), (0, .class_ 4), (0, .nameAndType 5 6), (0, u "java/lang/Record"), (0, u "<init>"), (0, u "()V"), (0, .fieldref 8 9), (0, .class_ 10), (0, .nameAndType 11 12), (0, u "com/example/vestry/vestry/engine/Elapsed"), (0, u "years"), (0, u "I"), (0, .fieldref 8 14), (0, .nameAndType 15 12), (0, u "months"), (0, .fieldref 8 17), (0, .nameAndType 18 12), (0, u "days"), (0, .long 12), (24, u "(III)V"), (34, u "MONTHS_A_YEAR"), (8, u "totalMonths"), (0, u "()J")] 24

def k3c0 : Code := { maxStack := 2, maxLocals := 4, code := prog_22_method_1_code, exceptionTable := #[], attributes := #[] }
def k3m0 : Method := { name := "<init>", desc := "(III)V", sig := { parameters := [.int, .int, .int], returnType := none }, accessFlags := 0, code := some k3c0 }
def k3c1 : Code := { maxStack := 4, maxLocals := 1, code := prog_22_method_4_code, exceptionTable := #[], attributes := #[] }
def k3m1 : Method := { name := "totalMonths", desc := "()J", sig := { parameters := [], returnType := some .long }, accessFlags := 0, code := some k3c1 }
/-- com/example/vestry/vestry/engine/Elapsed -/
def k3 : Class := { plain "com/example/vestry/vestry/engine/Elapsed" (some 2) with
  accessFlags := 48
  interfaces := #[]
  cf := some (fileOf pool3 8 #[] #[{ accessFlags := 0, nameIndex := 5, descriptorIndex := 44, attributes := #[] }, { accessFlags := 0, nameIndex := 88, descriptorIndex := 89, attributes := #[] }] 48 2 #[] #[{ accessFlags := 18, nameIndex := 11, descriptorIndex := 12, attributes := #[] }, { accessFlags := 18, nameIndex := 15, descriptorIndex := 12, attributes := #[] }, { accessFlags := 18, nameIndex := 18, descriptorIndex := 12, attributes := #[] }, { accessFlags := 26, nameIndex := 79, descriptorIndex := 12, attributes := #[] }])
  fields := #[{ name := "years", type := .int, accessFlags := 18, slot := 0, constantValue := 0 }, { name := "months", type := .int, accessFlags := 18, slot := 1, constantValue := 0 }, { name := "days", type := .int, accessFlags := 18, slot := 2, constantValue := 0 }, { name := "MONTHS_A_YEAR", type := .int, accessFlags := 26, slot := 0, constantValue := 0 }]
  methods := #[k3m0, k3m1]
  instanceTypes := #[.int, .int, .int]
  staticTypes := #[.int]
  resolved := Array.replicate 114 none
  statics := none }

def pool4 : Array CpInfo := pool [(1, u "java/lang/Cloneable"), (0, .class_ 1), (0, u "java/lang/Object"), (0, .class_ 3)] 3

/-- java/lang/Cloneable -/
def k4 : Class := { plain "java/lang/Cloneable" (some 0) with
  accessFlags := 1537
  interfaces := #[]
  cf := some (fileOf pool4 2 #[] #[] 1537 4 #[] #[])
  fields := #[]
  methods := #[]
  instanceTypes := #[]
  staticTypes := #[]
  resolved := Array.replicate 8 none
  statics := none }

def pool5 : Array CpInfo := pool [(1, u "java/io/Serializable"), (0, .class_ 1), (0, u "java/lang/Object"), (0, .class_ 3)] 3

/-- java/io/Serializable -/
def k5 : Class := { plain "java/io/Serializable" (some 0) with
  accessFlags := 1537
  interfaces := #[]
  cf := some (fileOf pool5 2 #[] #[] 1537 4 #[] #[])
  fields := #[]
  methods := #[]
  instanceTypes := #[]
  staticTypes := #[]
  resolved := Array.replicate 8 none
  statics := none }

/-- the primitive byte -/
def k6 : Class := { plain "byte" none with kind := .primitive 'B', accessFlags := 0x411 }
/-- [B -/
def k7 : Class := { plain "[B" (some 0) with kind := .array 6 .byte, interfaces := #[4, 5], accessFlags := 1041 }

/-- the primitive int -/
def k8 : Class := { plain "int" none with kind := .primitive 'I', accessFlags := 0x411 }
/-- [I -/
def k9 : Class := { plain "[I" (some 0) with kind := .array 8 .int, interfaces := #[4, 5], accessFlags := 1041 }

def heap : Heap := #[]
def classes : Array Class := #[k0, k1, k2, k3, k4, k5, k6, k7, k8, k9]
def interned : List (Array UInt16 × Addr) := []
def slotsUsed : Nat := 0
def theMethod : MethodId := ⟨1, 1⟩
def args0 : Array Value := #[.int 5, .int 7, .int 3, .int 2]
def aboutOver (below : List Frame) : State where
  vm := { classes := classes, interned := interned.toArray }
  heap := heap
  slotsUsed := slotsUsed
  threads := #[{ frames := .invoking theMethod args0 :: below }]
def below0 : List Frame := [.native { method := ⟨0, 0⟩, args := #[] }]
def about1 : State := aboutOver below0
def p0 : Program := .bare "" "" ""
def e0 : Env := launch0.env 0 0 0
theorem w_frames : about1.frames = Frame.invoking theMethod args0 :: below0 := rfl
set_option maxRecDepth 65536 in
theorem w_args : argsFit about1.vm theMethod args0 = true := by decide +kernel
set_option maxRecDepth 65536 in
theorem w_heap : heapFits about1 = true := by decide +kernel
set_option maxRecDepth 65536 in
theorem w_runnable : about1.curStatus? = some .runnable := by decide +kernel
set_option maxRecDepth 65536 in
theorem w_alone : about1.alone = true := by decide +kernel
set_option maxRecDepth 65536 in
theorem w_named : about1.methodNamed? x = some theMethod := by decide +kernel
set_option maxRecDepth 65536 in
theorem w_hears : about1.hears theMethod below0 = true := by decide +kernel
set_option maxRecDepth 65536 in
theorem w_ripe : about1.ripe theMethod args0 below0 = true := by decide +kernel
theorem w_running : about1.status = .running := rfl
set_option maxRecDepth 65536 in
theorem w_room : about1.hasRoom e0.platform room_1 = true :=
  launch0.hasRoom_least _ room_1 (by decide +kernel) (by decide +kernel) (by decide +kernel) (by decide +kernel) (by decide +kernel) (by decide +kernel)
theorem allAtoms_all (ts : List Jvm.Cond) (a : Array Jvm.Value) (st : Jvm.State) : (allAtoms ts).before a st = ts.all (fun c => c.before a st) := by
  induction ts with
  | nil => rfl
  | cons c t ih =>
    show (Jvm.Cond.and c (allAtoms t)).before a st = _
    rw [Jvm.Cond.before_and, ih, List.all_cons]
def words1 : List Jvm.Cond := Jvm.Cond.code x code maxLocals ret :: tables_1
/-- a 'code' word, met by the world's own term for the bytes: nothing is compared byte by byte -/
theorem code_word {y : MethodName} {bytes : ByteArray} {mx : Nat} {rt : Option FieldType} {a : Array Value} {s : State} {m : MethodId} {meth : Method} {c : Code} (h1 : s.methodNamed? y = some m) (h2 : s.vm.method? m = some meth) (h3 : meth.code = some c) (h4 : c.code = bytes)
    (h5 : (c.maxLocals == mx && c.exceptionTable.isEmpty && decide (c.maxStack ≤ mostOperands) && decide (meth.sig.returnType = rt) && !meth.locks && decide (parseMethodDescriptor y.desc = some meth.sig)) = true) : (Jvm.Cond.code y bytes mx rt).before a s = true := by
  simp only [Bool.and_eq_true, beq_iff_eq, Bool.not_eq_true', decide_eq_true_eq] at h5
  obtain ⟨⟨⟨⟨⟨g1, g2⟩, g3⟩, g4⟩, g5⟩, g6⟩ := h5
  simp [Cond.before, Cond.holds, Cond.value, h1, h2, h3, h4, g1, g2, g3, g4, g5, g6]
def isCode : Jvm.Cond → Bool
  | .code _ _ _ _ => true
  | _ => false
theorem all_split {L : List Jvm.Cond} {P : Jvm.Cond → Bool} (h1 : L.all (fun c => isCode c || P c) = true) (h2 : ∀ c ∈ L.filter isCode, P c = true) : L.all P = true := by
  refine List.all_eq_true.mpr fun c hc => ?_
  have h := List.all_eq_true.mp h1 c hc
  rcases Bool.eq_false_or_eq_true (isCode c) with hi | hi
  · exact h2 c (List.mem_filter.mpr ⟨hc, hi⟩)
  · simpa [hi] using h
set_option maxRecDepth 65536 in
theorem w_c0 : (Jvm.Cond.code x code maxLocals ret).before args0 about1 = true := code_word (m := ⟨1, 1⟩) (meth := k1m1) (c := k1c1) (by decide +kernel) rfl rfl rfl (by decide +kernel)
set_option maxRecDepth 65536 in
theorem w_c1 : (Jvm.Cond.code ({ cls := "com/example/vestry/vestry/engine/Elapsed", name := "<init>", desc := "(III)V" } : Jvm.MethodName) prog_22_method_1_code (4 : Nat) (Option.none : Option Jvm.ClassFile.FieldType)).before args0 about1 = true := code_word (m := ⟨3, 0⟩) (meth := k3m0) (c := k3c0) (by decide +kernel) rfl rfl rfl (by decide +kernel)
set_option maxRecDepth 65536 in
theorem w_c2 : (Jvm.Cond.code ({ cls := "java/lang/Record", name := "<init>", desc := "()V" } : Jvm.MethodName) jdk_30_method_1_code (1 : Nat) (Option.none : Option Jvm.ClassFile.FieldType)).before args0 about1 = true := code_word (m := ⟨2, 0⟩) (meth := k2m0) (c := k2c0) (by decide +kernel) rfl rfl rfl (by decide +kernel)
set_option maxRecDepth 65536 in
theorem w_c3 : (Jvm.Cond.code ({ cls := "java/lang/Object", name := "<init>", desc := "()V" } : Jvm.MethodName) object_method_1_code (1 : Nat) (Option.none : Option Jvm.ClassFile.FieldType)).before args0 about1 = true := code_word (m := ⟨0, 0⟩) (meth := k0m0) (c := k0c0) (by decide +kernel) rfl rfl rfl (by decide +kernel)
set_option maxRecDepth 65536 in
theorem w_c4 : (Jvm.Cond.code ({ cls := "com/example/vestry/vestry/engine/Elapsed", name := "totalMonths", desc := "()J" } : Jvm.MethodName) prog_22_method_4_code (1 : Nat) (Option.some Jvm.ClassFile.FieldType.long)).before args0 about1 = true := code_word (m := ⟨3, 1⟩) (meth := k3m1) (c := k3c1) (by decide +kernel) rfl rfl rfl (by decide +kernel)
def codes1 : List Jvm.Cond := [Jvm.Cond.code x code maxLocals ret, Jvm.Cond.code ({ cls := "com/example/vestry/vestry/engine/Elapsed", name := "<init>", desc := "(III)V" } : Jvm.MethodName) prog_22_method_1_code (4 : Nat) (Option.none : Option Jvm.ClassFile.FieldType), Jvm.Cond.code ({ cls := "java/lang/Record", name := "<init>", desc := "()V" } : Jvm.MethodName) jdk_30_method_1_code (1 : Nat) (Option.none : Option Jvm.ClassFile.FieldType), Jvm.Cond.code ({ cls := "java/lang/Object", name := "<init>", desc := "()V" } : Jvm.MethodName) object_method_1_code (1 : Nat) (Option.none : Option Jvm.ClassFile.FieldType), Jvm.Cond.code ({ cls := "com/example/vestry/vestry/engine/Elapsed", name := "totalMonths", desc := "()J" } : Jvm.MethodName) prog_22_method_4_code (1 : Nat) (Option.some Jvm.ClassFile.FieldType.long)]
set_option maxRecDepth 65536 in
theorem codes_eq : words1.filter isCode = codes1 := rfl
theorem w_codes : ∀ c ∈ words1.filter isCode, c.before args0 about1 = true := by
  rw [codes_eq]
  intro c hc
  simp only [codes1, List.mem_cons, List.not_mem_nil, or_false] at hc
  rcases hc with rfl | rfl | rfl | rfl | rfl
  · exact w_c0
  · exact w_c1
  · exact w_c2
  · exact w_c3
  · exact w_c4
set_option maxRecDepth 65536 in
theorem w_t1 : (words1.take 24).all (fun c => isCode c || c.before args0 about1) = true := by decide +kernel
set_option maxRecDepth 65536 in
theorem w_t2 : (words1.drop 24).all (fun c => isCode c || c.before args0 about1) = true := by decide +kernel
theorem w_tables : (allAtoms (Jvm.Cond.code x code maxLocals ret :: tables_1)).before args0 about1 = true := by
  rw [allAtoms_all]
  show words1.all (fun c => c.before args0 about1) = true
  refine all_split ?_ w_codes
  rw [← List.take_append_drop 24 words1, List.all_append, w_t1, w_t2]
  rfl
set_option maxRecDepth 65536 in
theorem w_case : (Jvm.Cond.and given_1 narrow_1).before args0 about1 = true := by decide +kernel
theorem w_applies : (headSpec (Jvm.Cond.code x code maxLocals ret :: tables_1) room_1).applies x e0.platform about1 = true :=
  (Spec.applies_iff w_frames).mpr ⟨w_running, w_runnable, w_alone, w_named, w_hears, w_ripe, w_room, w_tables⟩
theorem atStart : AtStart classFile x code maxLocals ret World_1 tables_1 room_1 Calls_1 rest_1 Pre_1 launch0 p0 e0 about1 theMethod args0 below0 :=
  ⟨lists_1, trivial, launch0.admits_env _ _ _, launch0.least_env, fairChoices_fair.cas, fairChoices_fair.clock, w_frames, w_args, w_heap, w_applies, trivial, trivial, w_case⟩
end start1
theorem witness_1 : WitnessClaimed_1 := ⟨start1.p0, start1.e0, start1.about1, start1.theMethod, start1.args0, start1.below0, start1.atStart⟩
end Jvm.Pilot.@@N@@
